import JvmDerived
import JvmDerived.Pilot.@@N@@Statement
import JvmDerived.Pilot.@@N@@Code
set_option linter.unusedVariables false
set_option linter.unusedSimpArgs false
@@BLOCK:NumsL.lean.txt@@
namespace Jvm.Pilot.@@N@@
open Jvm Jvm.ClassFile Sem Op Lib Jvm.Free Jvm.Stand Jvm.LawKit Jvm.RoadKit Bundle Jvm.Pilot.@@N@@.Jvm.D
/-! 1. OWN: a walk in continuation style: 'own_Goes': from this frame the run comes back with an outcome of which Q holds -/
def own_Goes (p : Program) (e : Env) (below : List Frame) (T : State) (F : JFrame) (Q : Outcome → State → Prop) : Prop := ∃ s₂ o, Steps p.tables e below (T.setTop F) s₂ ∧ s₂.status = .running ∧ Ended s₂ below o ∧ Q o s₂
def own_Ret (s : State) (K : Option Value → Heap → List Loc → Prop) (rc rs : Nat) (o : Outcome) (U' : State) : Prop := ∃ v L, o = .returned v ∧ K v U'.heap L ∧ FrameEnd s o U' L rc rs
def own_upd (f : Nat → Value) (k : Nat) (v : Value) : Nat → Value := fun i => if i = k then v else f i
/-- an array of n places at a; place j holds f j -/
def own_Arr (Z : State) (h : Heap) (a : Addr) (ty : FieldType) (n : Nat) (f : Nat → Value) : Prop := ∃ c : Cell, Arr Z h a c ty ∧ c.slots.size = n ∧ n < 2 ^ 31 ∧ ∀ j, j < n → c.slots[j]? = some (f j)
section Own
variable {p : Program} {l : Launch} {e : Env} {R : Room} {s : State} {m : MethodId} {args : Array Value} {below : List Frame} {meth : Method} {c : Code} {T : State} {locs : List Loc} {cells slots : Nat} {Z : State} {a0 : Array Value} {h h' : Heap} {Q : Outcome → State → Prop} {Ls Ls' : Array Slot} {st : List Value} {pc pc' : Nat}
theorem own_step {T' : State} {F F' : JFrame} (k : ∀ t, Steps p.tables e below (T'.setTop F') t → Steps p.tables e below (T.setTop F) t) (q : own_Goes p e below T' F' Q) : own_Goes p e below T F Q := by
  obtain ⟨s2, o, h1, h2⟩ := q
  exact ⟨s2, o, k _ h1, h2⟩
theorem own_body {y : MethodName} {bytes : ByteArray} {maxL : Nat} {rt : Option FieldType} {ws : List Jvm.Cond} {rm : Room} {as : Array Value} {h0 : Heap} {K : Option Value → Heap → List Loc → Prop} (hpl : plainFor y = true)
    (body : ∀ (p : Program) (e : Env) (s : State) (m : MethodId) (below : List Frame) (meth : Method) (c : Code) (s₁ : State), p.tables.exec = Jvm.exec → c.code = bytes → c.maxLocals = maxL → s.vm.findClass y.cls = some m.cls → meth.name = y.name → meth.sig.returnType = rt → meth.locks = false → Z.Warmed39 s.vm →
      Stand p l e rm s m as below meth c s₁ [] 0 0 → s₁.heap = h0 → own_Goes p e below s₁ (entryFrame m as maxL) (own_Ret s K rm.cells rm.slots)) :
    MetFree l y (head1 (Jvm.Cond.code y bytes maxL rt :: ws) rm) (fun a U => a = as ∧ Z.Warmed39 U.vm ∧ U.heap = h0) (fun _ _ _ _ _ => True) (fun _ U o U' => ∃ v L, o = .returned v ∧ K v U'.heap L ∧ FrameEnd U o U' L rm.cells rm.slots) := by
  refine MetFree.of_bodySF hpl hisR ?_
  intro p e s m args below meth c s₁ Bd hml0 hP hK
  obtain ⟨rfl, hZ, hh⟩ := hP
  exact body p e s m below meth c s₁ Bd.exec Bd.bytes hml0 (findClass_of_methodNamed Bd.named) (name_of_methodNamed Bd.named Bd.method).1 Bd.returns Bd.notSynchronized hZ (Stand.of_body Bd) (by rw [← hh, Bd.state]; rfl)
theorem own_iload (X : Stand p l e R s m args below meth c T locs cells slots) (hx : p.tables.exec = Jvm.exec) {k : Nat} {v : Int32} (hp : pc + 2 = pc') (hd : decode c.code pc = .ok (.iload k, 2)) (hl : Ls[k]? = some (.val (.int v))) (k : own_Goes p e below T (mkF m pc' Ls (.int v :: st)) Q) : own_Goes p e below T (mkF m pc Ls st) Q := by
  subst hp; exact own_step (fun _ q => XS.iload X.here hx rfl hd hl q) k
theorem own_iloadN (X : Stand p l e R s m args below meth c T locs cells slots) (hx : p.tables.exec = Jvm.exec) {k : Fin 4} {v : Int32} (hp : pc + 1 = pc') (hd : decode c.code pc = .ok (.iload_n k, 1)) (hl : Ls[k.val]? = some (.val (.int v))) (k : own_Goes p e below T (mkF m pc' Ls (.int v :: st)) Q) : own_Goes p e below T (mkF m pc Ls st) Q := by
  subst hp; exact own_step (fun _ q => XS.iloadN X.here hx rfl hd hl q) k
theorem own_istore (X : Stand p l e R s m args below meth c T locs cells slots) (hx : p.tables.exec = Jvm.exec) {k : Nat} {v : Int32} (hp : pc + 2 = pc') (hd : decode c.code pc = .ok (.istore k, 2)) (hl : storeLocals Ls k (.int v) = some Ls') (k : own_Goes p e below T (mkF m pc' Ls' st) Q) : own_Goes p e below T (mkF m pc Ls (.int v :: st)) Q := by
  subst hp; exact own_step (fun _ q => XS.istore X.here hx rfl hd rfl hl q) k
theorem own_istoreN (X : Stand p l e R s m args below meth c T locs cells slots) (hx : p.tables.exec = Jvm.exec) {k : Fin 4} {v : Int32} (hp : pc + 1 = pc') (hd : decode c.code pc = .ok (.istore_n k, 1)) (hl : storeLocals Ls k.val (.int v) = some Ls') (k : own_Goes p e below T (mkF m pc' Ls' st) Q) : own_Goes p e below T (mkF m pc Ls (.int v :: st)) Q := by
  subst hp; exact own_step (fun _ q => XS.istoreN X.here hx rfl hd rfl hl q) k
theorem own_lload (X : Stand p l e R s m args below meth c T locs cells slots) (hx : p.tables.exec = Jvm.exec) {k : Nat} {v : Int64} (hp : pc + 2 = pc') (hd : decode c.code pc = .ok (.lload k, 2)) (hl : Ls[k]? = some (.val (.long v))) (k : own_Goes p e below T (mkF m pc' Ls (.long v :: st)) Q) : own_Goes p e below T (mkF m pc Ls st) Q := by
  subst hp; exact own_step (fun _ q => XT.lload X.here hx rfl hd hl q) k
theorem own_lloadN (X : Stand p l e R s m args below meth c T locs cells slots) (hx : p.tables.exec = Jvm.exec) {k : Fin 4} {v : Int64} (hp : pc + 1 = pc') (hd : decode c.code pc = .ok (.lload_n k, 1)) (hl : Ls[k.val]? = some (.val (.long v))) (k : own_Goes p e below T (mkF m pc' Ls (.long v :: st)) Q) : own_Goes p e below T (mkF m pc Ls st) Q := by
  subst hp; exact own_step (fun _ q => XT.lloadN X.here hx rfl hd hl q) k
theorem own_lstore (X : Stand p l e R s m args below meth c T locs cells slots) (hx : p.tables.exec = Jvm.exec) {k : Nat} {v : Int64} (hp : pc + 2 = pc') (hd : decode c.code pc = .ok (.lstore k, 2)) (hl : storeLocals Ls k (.long v) = some Ls') (k : own_Goes p e below T (mkF m pc' Ls' st) Q) : own_Goes p e below T (mkF m pc Ls (.long v :: st)) Q := by
  subst hp; exact own_step (fun _ q => XT.lstore X.here hx rfl hd rfl hl q) k
theorem own_lstoreN (X : Stand p l e R s m args below meth c T locs cells slots) (hx : p.tables.exec = Jvm.exec) {k : Fin 4} {v : Int64} (hp : pc + 1 = pc') (hd : decode c.code pc = .ok (.lstore_n k, 1)) (hl : storeLocals Ls k.val (.long v) = some Ls') (k : own_Goes p e below T (mkF m pc' Ls' st) Q) : own_Goes p e below T (mkF m pc Ls (.long v :: st)) Q := by
  subst hp; exact own_step (fun _ q => XT.lstoreN X.here hx rfl hd rfl hl q) k
theorem own_aload (X : Stand p l e R s m args below meth c T locs cells slots) (hx : p.tables.exec = Jvm.exec) {k : Nat} {v : Value} (hp : pc + 2 = pc') (hd : decode c.code pc = .ok (.aload k, 2)) (hl : Ls[k]? = some (.val v)) (hv : v.isRef = true) (k : own_Goes p e below T (mkF m pc' Ls (v :: st)) Q) : own_Goes p e below T (mkF m pc Ls st) Q := by
  subst hp; exact own_step (fun _ q => XS.aload X.here hx rfl hd hl hv q) k
theorem own_aloadN (X : Stand p l e R s m args below meth c T locs cells slots) (hx : p.tables.exec = Jvm.exec) {k : Fin 4} {v : Value} (hp : pc + 1 = pc') (hd : decode c.code pc = .ok (.aload_n k, 1)) (hl : Ls[k.val]? = some (.val v)) (hv : v.isRef = true) (k : own_Goes p e below T (mkF m pc' Ls (v :: st)) Q) : own_Goes p e below T (mkF m pc Ls st) Q := by
  subst hp; exact own_step (fun _ q => XS.aloadN X.here hx rfl hd hl hv q) k
theorem own_astore (X : Stand p l e R s m args below meth c T locs cells slots) (hx : p.tables.exec = Jvm.exec) {k : Nat} {v : Value} (hp : pc + 2 = pc') (hd : decode c.code pc = .ok (.astore k, 2)) (hv : v.isRef = true) (hl : storeLocals Ls k v = some Ls') (k : own_Goes p e below T (mkF m pc' Ls' st) Q) : own_Goes p e below T (mkF m pc Ls (v :: st)) Q := by
  subst hp; exact own_step (fun _ q => XS.astore X.here hx rfl hd rfl hv hl q) k
theorem own_astoreN (X : Stand p l e R s m args below meth c T locs cells slots) (hx : p.tables.exec = Jvm.exec) {k : Fin 4} {v : Value} (hp : pc + 1 = pc') (hd : decode c.code pc = .ok (.astore_n k, 1)) (hv : v.isRef = true) (hl : storeLocals Ls k.val v = some Ls') (k : own_Goes p e below T (mkF m pc' Ls' st) Q) : own_Goes p e below T (mkF m pc Ls (v :: st)) Q := by
  subst hp; exact own_step (fun _ q => XS.astoreN X.here hx rfl hd rfl hv hl q) k
theorem own_iconst (X : Stand p l e R s m args below meth c T locs cells slots) (hx : p.tables.exec = Jvm.exec) {i : Int} {v : Int32} (hp : pc + 1 = pc') (hd : decode c.code pc = .ok (.iconst i, 1)) (hv : Int32.ofInt i = v) (k : own_Goes p e below T (mkF m pc' Ls (.int v :: st)) Q) : own_Goes p e below T (mkF m pc Ls st) Q := by
  subst hp; subst hv; exact own_step (fun _ q => XS.iconst X.here hx rfl hd  q) k
theorem own_bipush (X : Stand p l e R s m args below meth c T locs cells slots) (hx : p.tables.exec = Jvm.exec) {i : Int} {v : Int32} (hp : pc + 2 = pc') (hd : decode c.code pc = .ok (.bipush i, 2)) (hv : (Int8.ofInt i).toInt32 = v) (k : own_Goes p e below T (mkF m pc' Ls (.int v :: st)) Q) : own_Goes p e below T (mkF m pc Ls st) Q := by
  subst hp; subst hv; exact own_step (fun _ q => XS.bipush X.here hx rfl hd  q) k
theorem own_sipush (X : Stand p l e R s m args below meth c T locs cells slots) (hx : p.tables.exec = Jvm.exec) {i : Int} {v : Int32} (hp : pc + 3 = pc') (hd : decode c.code pc = .ok (.sipush i, 3)) (hv : (Int16.ofInt i).toInt32 = v) (k : own_Goes p e below T (mkF m pc' Ls (.int v :: st)) Q) : own_Goes p e below T (mkF m pc Ls st) Q := by
  subst hp; subst hv; exact own_step (fun _ q => XS.sipush X.here hx rfl hd  q) k
theorem own_lconst (X : Stand p l e R s m args below meth c T locs cells slots) (hx : p.tables.exec = Jvm.exec) {i : Fin 2} {v : Int64} (hp : pc + 1 = pc') (hd : decode c.code pc = .ok (.lconst i, 1)) (hv : Int64.ofNat i = v) (k : own_Goes p e below T (mkF m pc' Ls (.long v :: st)) Q) : own_Goes p e below T (mkF m pc Ls st) Q := by
  subst hp; subst hv; exact own_step (fun _ q => XT.lconst X.here hx rfl hd  q) k
theorem own_anull (X : Stand p l e R s m args below meth c T locs cells slots) (hx : p.tables.exec = Jvm.exec)  (hp : pc + 1 = pc') (hd : decode c.code pc = .ok (.aconst_null, 1))  (k : own_Goes p e below T (mkF m pc' Ls (.null :: st)) Q) : own_Goes p e below T (mkF m pc Ls st) Q := by
  subst hp; exact own_step (fun _ q => XS.aconstNull X.here hx rfl hd  q) k
theorem own_iadd (X : Stand p l e R s m args below meth c T locs cells slots) (hx : p.tables.exec = Jvm.exec) {x y v : Int32} (hp : pc + 1 = pc') (hd : decode c.code pc = .ok (.iadd, 1)) (hv : x + y = v) (k : own_Goes p e below T (mkF m pc' Ls (.int v :: st)) Q) : own_Goes p e below T (mkF m pc Ls (.int y :: .int x :: st)) Q := by
  subst hp; subst hv; exact own_step (fun _ q => XS.iadd X.here hx rfl hd rfl q) k
theorem own_isub (X : Stand p l e R s m args below meth c T locs cells slots) (hx : p.tables.exec = Jvm.exec) {x y v : Int32} (hp : pc + 1 = pc') (hd : decode c.code pc = .ok (.isub, 1)) (hv : x - y = v) (k : own_Goes p e below T (mkF m pc' Ls (.int v :: st)) Q) : own_Goes p e below T (mkF m pc Ls (.int y :: .int x :: st)) Q := by
  subst hp; subst hv; exact own_step (fun _ q => XS.isub X.here hx rfl hd rfl q) k
theorem own_imul (X : Stand p l e R s m args below meth c T locs cells slots) (hx : p.tables.exec = Jvm.exec) {x y v : Int32} (hp : pc + 1 = pc') (hd : decode c.code pc = .ok (.imul, 1)) (hv : x * y = v) (k : own_Goes p e below T (mkF m pc' Ls (.int v :: st)) Q) : own_Goes p e below T (mkF m pc Ls (.int y :: .int x :: st)) Q := by
  subst hp; subst hv; exact own_step (fun _ q => XS.imul X.here hx rfl hd rfl q) k
theorem own_iand (X : Stand p l e R s m args below meth c T locs cells slots) (hx : p.tables.exec = Jvm.exec) {x y v : Int32} (hp : pc + 1 = pc') (hd : decode c.code pc = .ok (.iand, 1)) (hv : x &&& y = v) (k : own_Goes p e below T (mkF m pc' Ls (.int v :: st)) Q) : own_Goes p e below T (mkF m pc Ls (.int y :: .int x :: st)) Q := by
  subst hp; subst hv; exact own_step (fun _ q => XS.iand X.here hx rfl hd rfl q) k
theorem own_ior (X : Stand p l e R s m args below meth c T locs cells slots) (hx : p.tables.exec = Jvm.exec) {x y v : Int32} (hp : pc + 1 = pc') (hd : decode c.code pc = .ok (.ior, 1)) (hv : x ||| y = v) (k : own_Goes p e below T (mkF m pc' Ls (.int v :: st)) Q) : own_Goes p e below T (mkF m pc Ls (.int y :: .int x :: st)) Q := by
  subst hp; subst hv; exact own_step (fun _ q => XT.ior X.here hx rfl hd rfl q) k
theorem own_ixor (X : Stand p l e R s m args below meth c T locs cells slots) (hx : p.tables.exec = Jvm.exec) {x y v : Int32} (hp : pc + 1 = pc') (hd : decode c.code pc = .ok (.ixor, 1)) (hv : x ^^^ y = v) (k : own_Goes p e below T (mkF m pc' Ls (.int v :: st)) Q) : own_Goes p e below T (mkF m pc Ls (.int y :: .int x :: st)) Q := by
  subst hp; subst hv; exact own_step (fun _ q => XT.ixor X.here hx rfl hd rfl q) k
theorem own_ishl (X : Stand p l e R s m args below meth c T locs cells slots) (hx : p.tables.exec = Jvm.exec) {x y v : Int32} (hp : pc + 1 = pc') (hd : decode c.code pc = .ok (.ishl, 1)) (hv : x <<< (y &&& 31) = v) (k : own_Goes p e below T (mkF m pc' Ls (.int v :: st)) Q) : own_Goes p e below T (mkF m pc Ls (.int y :: .int x :: st)) Q := by
  subst hp; subst hv; exact own_step (fun _ q => XT.ishl X.here hx rfl hd rfl q) k
theorem own_ishr (X : Stand p l e R s m args below meth c T locs cells slots) (hx : p.tables.exec = Jvm.exec) {x y v : Int32} (hp : pc + 1 = pc') (hd : decode c.code pc = .ok (.ishr, 1)) (hv : x >>> (y &&& 31) = v) (k : own_Goes p e below T (mkF m pc' Ls (.int v :: st)) Q) : own_Goes p e below T (mkF m pc Ls (.int y :: .int x :: st)) Q := by
  subst hp; subst hv; exact own_step (fun _ q => XT.ishr X.here hx rfl hd rfl q) k
theorem own_iushr (X : Stand p l e R s m args below meth c T locs cells slots) (hx : p.tables.exec = Jvm.exec) {x y v : Int32} (hp : pc + 1 = pc') (hd : decode c.code pc = .ok (.iushr, 1)) (hv : XT.ushr x y = v) (k : own_Goes p e below T (mkF m pc' Ls (.int v :: st)) Q) : own_Goes p e below T (mkF m pc Ls (.int y :: .int x :: st)) Q := by
  subst hp; subst hv; exact own_step (fun _ q => XT.iushr X.here hx rfl hd rfl q) k
theorem own_idiv (X : Stand p l e R s m args below meth c T locs cells slots) (hx : p.tables.exec = Jvm.exec) {x y v : Int32} (hp : pc + 1 = pc') (hd : decode c.code pc = .ok (.idiv, 1)) (hy : y ≠ 0) (hv : x / y = v) (k : own_Goes p e below T (mkF m pc' Ls (.int v :: st)) Q) : own_Goes p e below T (mkF m pc Ls (.int y :: .int x :: st)) Q := by
  subst hp; subst hv; exact own_step (fun _ q => XS.idiv X.here hx rfl hd rfl hy q) k
theorem own_irem (X : Stand p l e R s m args below meth c T locs cells slots) (hx : p.tables.exec = Jvm.exec) {x y v : Int32} (hp : pc + 1 = pc') (hd : decode c.code pc = .ok (.irem, 1)) (hy : y ≠ 0) (hv : x % y = v) (k : own_Goes p e below T (mkF m pc' Ls (.int v :: st)) Q) : own_Goes p e below T (mkF m pc Ls (.int y :: .int x :: st)) Q := by
  subst hp; subst hv; exact own_step (fun _ q => iremM X hx rfl hd rfl hy q) k
theorem own_ladd (X : Stand p l e R s m args below meth c T locs cells slots) (hx : p.tables.exec = Jvm.exec) {x y v : Int64} (hp : pc + 1 = pc') (hd : decode c.code pc = .ok (.ladd, 1)) (hv : x + y = v) (k : own_Goes p e below T (mkF m pc' Ls (.long v :: st)) Q) : own_Goes p e below T (mkF m pc Ls (.long y :: .long x :: st)) Q := by
  subst hp; subst hv; exact own_step (fun _ q => XT.ladd X.here hx rfl hd rfl q) k
theorem own_lsub (X : Stand p l e R s m args below meth c T locs cells slots) (hx : p.tables.exec = Jvm.exec) {x y v : Int64} (hp : pc + 1 = pc') (hd : decode c.code pc = .ok (.lsub, 1)) (hv : x - y = v) (k : own_Goes p e below T (mkF m pc' Ls (.long v :: st)) Q) : own_Goes p e below T (mkF m pc Ls (.long y :: .long x :: st)) Q := by
  subst hp; subst hv; exact own_step (fun _ q => XT.lsub X.here hx rfl hd rfl q) k
theorem own_lmul (X : Stand p l e R s m args below meth c T locs cells slots) (hx : p.tables.exec = Jvm.exec) {x y v : Int64} (hp : pc + 1 = pc') (hd : decode c.code pc = .ok (.lmul, 1)) (hv : x * y = v) (k : own_Goes p e below T (mkF m pc' Ls (.long v :: st)) Q) : own_Goes p e below T (mkF m pc Ls (.long y :: .long x :: st)) Q := by
  subst hp; subst hv; exact own_step (fun _ q => XT.lmul X.here hx rfl hd rfl q) k
theorem own_land (X : Stand p l e R s m args below meth c T locs cells slots) (hx : p.tables.exec = Jvm.exec) {x y v : Int64} (hp : pc + 1 = pc') (hd : decode c.code pc = .ok (.land, 1)) (hv : x &&& y = v) (k : own_Goes p e below T (mkF m pc' Ls (.long v :: st)) Q) : own_Goes p e below T (mkF m pc Ls (.long y :: .long x :: st)) Q := by
  subst hp; subst hv; exact own_step (fun _ q => XT.land X.here hx rfl hd rfl q) k
theorem own_lor (X : Stand p l e R s m args below meth c T locs cells slots) (hx : p.tables.exec = Jvm.exec) {x y v : Int64} (hp : pc + 1 = pc') (hd : decode c.code pc = .ok (.lor, 1)) (hv : x ||| y = v) (k : own_Goes p e below T (mkF m pc' Ls (.long v :: st)) Q) : own_Goes p e below T (mkF m pc Ls (.long y :: .long x :: st)) Q := by
  subst hp; subst hv; exact own_step (fun _ q => XT.lor X.here hx rfl hd rfl q) k
theorem own_lxor (X : Stand p l e R s m args below meth c T locs cells slots) (hx : p.tables.exec = Jvm.exec) {x y v : Int64} (hp : pc + 1 = pc') (hd : decode c.code pc = .ok (.lxor, 1)) (hv : x ^^^ y = v) (k : own_Goes p e below T (mkF m pc' Ls (.long v :: st)) Q) : own_Goes p e below T (mkF m pc Ls (.long y :: .long x :: st)) Q := by
  subst hp; subst hv; exact own_step (fun _ q => XT.lxor X.here hx rfl hd rfl q) k
theorem own_ldiv (X : Stand p l e R s m args below meth c T locs cells slots) (hx : p.tables.exec = Jvm.exec) {x y v : Int64} (hp : pc + 1 = pc') (hd : decode c.code pc = .ok (.ldiv, 1)) (hy : y ≠ 0) (hv : x / y = v) (k : own_Goes p e below T (mkF m pc' Ls (.long v :: st)) Q) : own_Goes p e below T (mkF m pc Ls (.long y :: .long x :: st)) Q := by
  subst hp; subst hv; exact own_step (fun _ q => XT.ldiv X.here hx rfl hd rfl hy q) k
theorem own_ineg (X : Stand p l e R s m args below meth c T locs cells slots) (hx : p.tables.exec = Jvm.exec) {x v : Int32} (hp : pc + 1 = pc') (hd : decode c.code pc = .ok (.ineg, 1)) (hv : -x = v) (k : own_Goes p e below T (mkF m pc' Ls (.int v :: st)) Q) : own_Goes p e below T (mkF m pc Ls (.int x :: st)) Q := by
  subst hp; subst hv; exact own_step (fun _ q => XS.ineg X.here hx rfl hd rfl q) k
theorem own_lneg (X : Stand p l e R s m args below meth c T locs cells slots) (hx : p.tables.exec = Jvm.exec) {x v : Int64} (hp : pc + 1 = pc') (hd : decode c.code pc = .ok (.lneg, 1)) (hv : -x = v) (k : own_Goes p e below T (mkF m pc' Ls (.long v :: st)) Q) : own_Goes p e below T (mkF m pc Ls (.long x :: st)) Q := by
  subst hp; subst hv; exact own_step (fun _ q => XT.lneg X.here hx rfl hd rfl q) k
theorem own_i2l (X : Stand p l e R s m args below meth c T locs cells slots) (hx : p.tables.exec = Jvm.exec) {x : Int32} {v : Int64} (hp : pc + 1 = pc') (hd : decode c.code pc = .ok (.i2l, 1)) (hv : x.toInt64 = v) (k : own_Goes p e below T (mkF m pc' Ls (.long v :: st)) Q) : own_Goes p e below T (mkF m pc Ls (.int x :: st)) Q := by
  subst hp; subst hv; exact own_step (fun _ q => XT.i2l X.here hx rfl hd rfl q) k
theorem own_l2i (X : Stand p l e R s m args below meth c T locs cells slots) (hx : p.tables.exec = Jvm.exec) {x : Int64} {v : Int32} (hp : pc + 1 = pc') (hd : decode c.code pc = .ok (.l2i, 1)) (hv : x.toInt32 = v) (k : own_Goes p e below T (mkF m pc' Ls (.int v :: st)) Q) : own_Goes p e below T (mkF m pc Ls (.long x :: st)) Q := by
  subst hp; subst hv; exact own_step (fun _ q => XT.l2i X.here hx rfl hd rfl q) k
theorem own_i2b (X : Stand p l e R s m args below meth c T locs cells slots) (hx : p.tables.exec = Jvm.exec) {x v : Int32} (hp : pc + 1 = pc') (hd : decode c.code pc = .ok (.i2b, 1)) (hv : x.toInt8.toInt32 = v) (k : own_Goes p e below T (mkF m pc' Ls (.int v :: st)) Q) : own_Goes p e below T (mkF m pc Ls (.int x :: st)) Q := by
  subst hp; subst hv; exact own_step (fun _ q => XT.i2b X.here hx rfl hd rfl q) k
theorem own_i2c (X : Stand p l e R s m args below meth c T locs cells slots) (hx : p.tables.exec = Jvm.exec) {x v : Int32} (hp : pc + 1 = pc') (hd : decode c.code pc = .ok (.i2c, 1)) (hv : x.toUInt32.toUInt16.toUInt32.toInt32 = v) (k : own_Goes p e below T (mkF m pc' Ls (.int v :: st)) Q) : own_Goes p e below T (mkF m pc Ls (.int x :: st)) Q := by
  subst hp; subst hv; exact own_step (fun _ q => XT.i2c X.here hx rfl hd rfl q) k
theorem own_i2s (X : Stand p l e R s m args below meth c T locs cells slots) (hx : p.tables.exec = Jvm.exec) {x v : Int32} (hp : pc + 1 = pc') (hd : decode c.code pc = .ok (.i2s, 1)) (hv : x.toInt16.toInt32 = v) (k : own_Goes p e below T (mkF m pc' Ls (.int v :: st)) Q) : own_Goes p e below T (mkF m pc Ls (.int x :: st)) Q := by
  subst hp; subst hv; exact own_step (fun _ q => XT.i2s X.here hx rfl hd rfl q) k
theorem own_lcmp (X : Stand p l e R s m args below meth c T locs cells slots) (hx : p.tables.exec = Jvm.exec) {x y : Int64} (hp : pc + 1 = pc') (hd : decode c.code pc = .ok (.lcmp, 1))  (k : own_Goes p e below T (mkF m pc' Ls (.int (XT.cmpL x y) :: st)) Q) : own_Goes p e below T (mkF m pc Ls (.long y :: .long x :: st)) Q := by
  subst hp; exact own_step (fun _ q => XT.lcmp X.here hx rfl hd rfl q) k
theorem own_iinc (X : Stand p l e R s m args below meth c T locs cells slots) (hx : p.tables.exec = Jvm.exec) {n : Nat} {i : Int} {x v : Int32} (hp : pc + 3 = pc') (hd : decode c.code pc = .ok (.iinc n i, 3)) (hl : Ls[n]? = some (.val (.int x))) (hv : x + Int32.ofInt i = v) (hl' : storeLocals Ls n (.int v) = some Ls') (k : own_Goes p e below T (mkF m pc' Ls' st) Q) : own_Goes p e below T (mkF m pc Ls st) Q := by
  subst hp; subst hv; exact own_step (fun _ q => XS.iinc X.here hx rfl hd hl hl' q) k
theorem own_dup (X : Stand p l e R s m args below meth c T locs cells slots) (hx : p.tables.exec = Jvm.exec) {x : Value} (hp : pc + 1 = pc') (hd : decode c.code pc = .ok (.dup, 1)) (hc : x.category = 1) (k : own_Goes p e below T (mkF m pc' Ls (x :: x :: st)) Q) : own_Goes p e below T (mkF m pc Ls (x :: st)) Q := by
  subst hp; exact own_step (fun _ q => XS.dup X.here hx rfl hd rfl hc q) k
theorem own_pop (X : Stand p l e R s m args below meth c T locs cells slots) (hx : p.tables.exec = Jvm.exec) {x : Value} (hp : pc + 1 = pc') (hd : decode c.code pc = .ok (.pop, 1)) (hc : x.category = 1) (k : own_Goes p e below T (mkF m pc' Ls st) Q) : own_Goes p e below T (mkF m pc Ls (x :: st)) Q := by
  subst hp; exact own_step (fun _ q => XT.pop X.here hx rfl hd rfl hc q) k
theorem own_goto (X : Stand p l e R s m args below meth c T locs cells slots) (hx : p.tables.exec = Jvm.exec) {o : Int} (hd : decode c.code pc = .ok (.goto o, 3)) (ho : 0 ≤ (pc : Int) + o) (hp : ((pc : Int) + o).toNat = pc') (k : own_Goes p e below T (mkF m pc' Ls st) Q) : own_Goes p e below T (mkF m pc Ls st) Q := own_step (fun _ q => XS.goto X.here hx rfl (pc0 := pc) (pc' := pc') rfl hd ho hp q) k
theorem own_ifT (X : Stand p l e R s m args below meth c T locs cells slots) (hx : p.tables.exec = Jvm.exec) {cd : ClassFile.Cond} {x : Int32} {o : Int} (hd : decode c.code pc = .ok (.ifCond cd o, 3)) (hc : ifCond.holds cd x = true) (ho : 0 ≤ (pc : Int) + o) (hp : ((pc : Int) + o).toNat = pc') (k : own_Goes p e below T (mkF m pc' Ls st) Q) : own_Goes p e below T (mkF m pc Ls (.int x :: st)) Q := own_step (fun _ q => XS.ifYes X.here hx rfl (pc0 := pc) (pc' := pc') rfl hd rfl hc ho hp q) k
theorem own_ifF (X : Stand p l e R s m args below meth c T locs cells slots) (hx : p.tables.exec = Jvm.exec) {cd : ClassFile.Cond} {x : Int32} {o : Int} (hp : pc + 3 = pc') (hd : decode c.code pc = .ok (.ifCond cd o, 3)) (hc : ifCond.holds cd x = false) (k : own_Goes p e below T (mkF m pc' Ls st) Q) : own_Goes p e below T (mkF m pc Ls (.int x :: st)) Q := by
  subst hp; exact own_step (fun _ q => XS.ifNo X.here hx rfl hd rfl hc q) k
theorem own_icmpT (X : Stand p l e R s m args below meth c T locs cells slots) (hx : p.tables.exec = Jvm.exec) {cd : ClassFile.Cond} {x y : Int32} {o : Int} (hd : decode c.code pc = .ok (.if_icmp cd o, 3)) (hc : if_icmp.holds cd x y = true) (ho : 0 ≤ (pc : Int) + o) (hp : ((pc : Int) + o).toNat = pc') (k : own_Goes p e below T (mkF m pc' Ls st) Q) : own_Goes p e below T (mkF m pc Ls (.int y :: .int x :: st)) Q := own_step (fun _ q => XS.icmpYes X.here hx rfl (pc0 := pc) (pc' := pc') rfl hd rfl hc ho hp q) k
theorem own_icmpF (X : Stand p l e R s m args below meth c T locs cells slots) (hx : p.tables.exec = Jvm.exec) {cd : ClassFile.Cond} {x y : Int32} {o : Int} (hp : pc + 3 = pc') (hd : decode c.code pc = .ok (.if_icmp cd o, 3)) (hc : if_icmp.holds cd x y = false) (k : own_Goes p e below T (mkF m pc' Ls st) Q) : own_Goes p e below T (mkF m pc Ls (.int y :: .int x :: st)) Q := by
  subst hp; exact own_step (fun _ q => XS.icmpNo X.here hx rfl hd rfl hc q) k
theorem own_acmpT (X : Stand p l e R s m args below meth c T locs cells slots) (hx : p.tables.exec = Jvm.exec) {cd : ClassFile.ACond} {x y : Value} {o : Int} (hd : decode c.code pc = .ok (.if_acmp cd o, 3)) (h1 : x.isRef = true) (h2 : y.isRef = true) (hc : XT.acmp cd x y = true) (ho : 0 ≤ (pc : Int) + o) (hp : ((pc : Int) + o).toNat = pc') (k : own_Goes p e below T (mkF m pc' Ls st) Q) : own_Goes p e below T (mkF m pc Ls (y :: x :: st)) Q := own_step (fun _ q => XT.acmpYes X.here hx rfl (pc0 := pc) (pc' := pc') rfl hd rfl h1 h2 hc ho hp q) k
theorem own_acmpF (X : Stand p l e R s m args below meth c T locs cells slots) (hx : p.tables.exec = Jvm.exec) {cd : ClassFile.ACond} {x y : Value} {o : Int} (hp : pc + 3 = pc') (hd : decode c.code pc = .ok (.if_acmp cd o, 3)) (h1 : x.isRef = true) (h2 : y.isRef = true) (hc : XT.acmp cd x y = false) (k : own_Goes p e below T (mkF m pc' Ls st) Q) : own_Goes p e below T (mkF m pc Ls (y :: x :: st)) Q := by
  subst hp; exact own_step (fun _ q => XT.acmpNo X.here hx rfl hd rfl h1 h2 hc q) k
theorem own_ldc (X : Stand p l e R s m args below meth c T locs cells slots) (hx : p.tables.exec = Jvm.exec) (hZ : Z.Warmed39 s.vm) {own : String} {index : Nat} {v : Int32} (hown : s.vm.findClass own = some m.cls) (w : (Jvm.Cond.constant own index v).before a0 Z = true) (hp : pc + 2 = pc') (hd : decode c.code pc = .ok (.ldc index, 2)) (k : own_Goes p e below T (mkF m pc' Ls (.int v :: st)) Q) : own_Goes p e below T (mkF m pc Ls st) Q := by
  subst hp; exact own_step (fun _ q => X.ldcI hx hown (mvT hZ w) rfl hd q) k
theorem own_ldc2_w (X : Stand p l e R s m args below meth c T locs cells slots) (hx : p.tables.exec = Jvm.exec) (hZ : Z.Warmed39 s.vm) {own : String} {index : Nat} {v : Int64} (hown : s.vm.findClass own = some m.cls) (w : (Jvm.Cond.constantLong own index v).before a0 Z = true) (hp : pc + 3 = pc') (hd : decode c.code pc = .ok (.ldc2_w index, 3)) (k : own_Goes p e below T (mkF m pc' Ls (.long v :: st)) Q) : own_Goes p e below T (mkF m pc Ls st) Q := by
  subst hp; exact own_step (fun _ q => X.ldc2J hx hown (mvT hZ w) rfl hd q) k
theorem own_retW (X : Stand p l e R s m args below meth c T locs cells slots) (hx : p.tables.exec = Jvm.exec) (hlk : meth.locks = false) {w : Option Value} (hv : meth.sig.returnType = none → w = none) {F : JFrame} (run : ∀ fs, (∀ (f : JFrame) (acts : List Action), f.method = m → f.locked = none → f.entered = [] → (doReturn e (T.setTop f) acts w).1 = T.setFrames fs) → Steps p.tables e below (T.setTop F) (T.setFrames fs)) {K : Option Value → Heap → List Loc → Prop} {rc rs : Nat} (hc : cells ≤ rc) (hs : slots ≤ rs) (hQ : K w T.heap locs) : own_Goes p e below T F (own_Ret s K rc rs) := by
  obtain ⟨fs, hr, hrun, hended, hW, hsame⟩ := X.leave (v := w) hv hlk
  exact ⟨_, _, run fs hr, hrun, hended, w, locs, rfl, hQ, ⟨_, rfl⟩, hW, hsame.mono hc hs⟩
theorem own_iret (X : Stand p l e R s m args below meth c T locs cells slots) (hx : p.tables.exec = Jvm.exec) (hlk : meth.locks = false) {z : Int32} (hret : meth.sig.returnType = some .int) (hd : decode c.code pc = .ok (.ireturn, 1)) {K : Option Value → Heap → List Loc → Prop} {rc rs : Nat} (hc : cells ≤ rc) (hs : slots ≤ rs) (hQ : K (some (.int z)) T.heap locs) : own_Goes p e below T (mkF m pc Ls (.int z :: st)) (own_Ret s K rc rs) :=
  own_retW X hx hlk (fun q => by rw [hret] at q; cases q) (fun fs hr => retOut X hx hret rfl (Or.inl ⟨rfl, Or.inl rfl, z, rfl⟩) hd hr) hc hs hQ
theorem own_zret (X : Stand p l e R s m args below meth c T locs cells slots) (hx : p.tables.exec = Jvm.exec) (hlk : meth.locks = false) {z : Int32} {t : FieldType} (hret : meth.sig.returnType = some t) (ht : t = .boolean ∨ t = .byte ∨ t = .char ∨ t = .short) (hd : decode c.code pc = .ok (.ireturn, 1)) {K : Option Value → Heap → List Loc → Prop} {rc rs : Nat} (hc : cells ≤ rc) (hs : slots ≤ rs) (hQ : K (some (.int (nar t z))) T.heap locs) : own_Goes p e below T (mkF m pc Ls (.int z :: st)) (own_Ret s K rc rs) :=
  own_retW X hx hlk (fun q => by rw [hret] at q; cases q) (fun fs hr => retN X hx hret ht hd hr) hc hs hQ
theorem own_lret (X : Stand p l e R s m args below meth c T locs cells slots) (hx : p.tables.exec = Jvm.exec) (hlk : meth.locks = false) {z : Int64} (hret : meth.sig.returnType = some .long) (hd : decode c.code pc = .ok (.lreturn, 1)) {K : Option Value → Heap → List Loc → Prop} {rc rs : Nat} (hc : cells ≤ rc) (hs : slots ≤ rs) (hQ : K (some (.long z)) T.heap locs) : own_Goes p e below T (mkF m pc Ls (.long z :: st)) (own_Ret s K rc rs) :=
  own_retW X hx hlk (fun q => by rw [hret] at q; cases q) (fun fs hr => retOut X hx hret rfl (Or.inr (Or.inl ⟨rfl, rfl, z, rfl⟩)) hd hr) hc hs hQ
theorem own_aret (X : Stand p l e R s m args below meth c T locs cells slots) (hx : p.tables.exec = Jvm.exec) (hlk : meth.locks = false) {z : Value} {t : FieldType} (hret : meth.sig.returnType = some t) (ht : t.isReference = true) (hz : z.isRef = true) (hd : decode c.code pc = .ok (.areturn, 1)) {K : Option Value → Heap → List Loc → Prop} {rc rs : Nat} (hc : cells ≤ rc) (hs : slots ≤ rs) (hQ : K (some z) T.heap locs) : own_Goes p e below T (mkF m pc Ls (z :: st)) (own_Ret s K rc rs) :=
  own_retW X hx hlk (fun q => by rw [hret] at q; cases q) (fun fs hr => retOut X hx hret (by cases t <;> simp [FieldType.isReference] at ht <;> cases z <;> simp [Value.isRef] at hz <;> rfl) (Or.inr (Or.inr (Or.inr (Or.inr ⟨rfl, ht, hz⟩)))) hd hr) hc hs hQ
theorem own_ret (X : Stand p l e R s m args below meth c T locs cells slots) (hx : p.tables.exec = Jvm.exec) (hlk : meth.locks = false) (hret : meth.sig.returnType = none) (hd : decode c.code pc = .ok (.return_, 1)) {K : Option Value → Heap → List Loc → Prop} {rc rs : Nat} (hc : cells ≤ rc) (hs : slots ≤ rs) (hQ : K none T.heap locs) : own_Goes p e below T (mkF m pc Ls []) (own_Ret s K rc rs) :=
  own_retW X hx hlk (fun _ => rfl) (fun fs hr => X.returnOut hx hret hd hr) hc hs hQ
theorem own_dload (X : Stand p l e R s m args below meth c T locs cells slots) (hx : p.tables.exec = Jvm.exec) {k : Nat} {v : UInt64} (hp : pc + 2 = pc') (hd : decode c.code pc = .ok (.dload k, 2)) (hl : Ls[k]? = some (.val (.double v))) (k : own_Goes p e below T (mkF m pc' Ls (.double v :: st)) Q) : own_Goes p e below T (mkF m pc Ls st) Q := by
  subst hp; exact own_step (fun _ q => XS.dload X.here hx rfl hd hl q) k
theorem own_dloadN (X : Stand p l e R s m args below meth c T locs cells slots) (hx : p.tables.exec = Jvm.exec) {k : Fin 4} {v : UInt64} (hp : pc + 1 = pc') (hd : decode c.code pc = .ok (.dload_n k, 1)) (hl : Ls[k.val]? = some (.val (.double v))) (k : own_Goes p e below T (mkF m pc' Ls (.double v :: st)) Q) : own_Goes p e below T (mkF m pc Ls st) Q := by
  subst hp; exact own_step (fun _ q => XS.dloadN X.here hx rfl hd hl q) k
theorem own_dstore (X : Stand p l e R s m args below meth c T locs cells slots) (hx : p.tables.exec = Jvm.exec) {k : Nat} {v : UInt64} (hp : pc + 2 = pc') (hd : decode c.code pc = .ok (.dstore k, 2)) (hl : storeLocals Ls k (.double v) = some Ls') (k : own_Goes p e below T (mkF m pc' Ls' st) Q) : own_Goes p e below T (mkF m pc Ls (.double v :: st)) Q := by
  subst hp; exact own_step (fun _ q => XS.dstore X.here hx rfl hd rfl hl q) k
theorem own_dstoreN (X : Stand p l e R s m args below meth c T locs cells slots) (hx : p.tables.exec = Jvm.exec) {k : Fin 4} {v : UInt64} (hp : pc + 1 = pc') (hd : decode c.code pc = .ok (.dstore_n k, 1)) (hl : storeLocals Ls k.val (.double v) = some Ls') (k : own_Goes p e below T (mkF m pc' Ls' st) Q) : own_Goes p e below T (mkF m pc Ls (.double v :: st)) Q := by
  subst hp; exact own_step (fun _ q => XS.dstoreN X.here hx rfl hd rfl hl q) k
theorem own_dconst0 (X : Stand p l e R s m args below meth c T locs cells slots) (hx : p.tables.exec = Jvm.exec) {v : UInt64} (hp : pc + 1 = pc') (hd : decode c.code pc = .ok (.dconst 0, 1)) (hv : FP.dconst0 = v) (k : own_Goes p e below T (mkF m pc' Ls (.double v :: st)) Q) : own_Goes p e below T (mkF m pc Ls st) Q := by
  subst hp; exact own_step (fun _ q => XS.dconst0 X.here hx rfl hd hv q) k
theorem own_dconst1 (X : Stand p l e R s m args below meth c T locs cells slots) (hx : p.tables.exec = Jvm.exec) {v : UInt64} (hp : pc + 1 = pc') (hd : decode c.code pc = .ok (.dconst 1, 1)) (hv : FP.dconst1 = v) (k : own_Goes p e below T (mkF m pc' Ls (.double v :: st)) Q) : own_Goes p e below T (mkF m pc Ls st) Q := by
  subst hp; exact own_step (fun _ q => XS.dconst1 X.here hx rfl hd hv q) k
theorem own_i2d (X : Stand p l e R s m args below meth c T locs cells slots) (hx : p.tables.exec = Jvm.exec) {x : Int32} {v : UInt64} (hp : pc + 1 = pc') (hd : decode c.code pc = .ok (.i2d, 1)) (hv : FP.i2d x = v) (k : own_Goes p e below T (mkF m pc' Ls (.double v :: st)) Q) : own_Goes p e below T (mkF m pc Ls (.int x :: st)) Q := by
  subst hp; exact own_step (fun _ q => XS.i2dS X.here hx rfl hd rfl hv q) k
theorem own_l2d (X : Stand p l e R s m args below meth c T locs cells slots) (hx : p.tables.exec = Jvm.exec) {x : Int64} {v : UInt64} (hp : pc + 1 = pc') (hd : decode c.code pc = .ok (.l2d, 1)) (hv : FP.l2d x = v) (k : own_Goes p e below T (mkF m pc' Ls (.double v :: st)) Q) : own_Goes p e below T (mkF m pc Ls (.long x :: st)) Q := by
  subst hp; exact own_step (fun _ q => XS.l2dS X.here hx rfl hd rfl hv q) k
theorem own_dneg (X : Stand p l e R s m args below meth c T locs cells slots) (hx : p.tables.exec = Jvm.exec) {x v : UInt64} (hp : pc + 1 = pc') (hd : decode c.code pc = .ok (.dneg, 1)) (hv : FP.dneg x = v) (k : own_Goes p e below T (mkF m pc' Ls (.double v :: st)) Q) : own_Goes p e below T (mkF m pc Ls (.double x :: st)) Q := by
  subst hp; exact own_step (fun _ q => XS.dnegS X.here hx rfl hd rfl hv q) k
theorem own_dcmp (X : Stand p l e R s m args below meth c T locs cells slots) (hx : p.tables.exec = Jvm.exec) {o : CmpOp} {x y : UInt64} {v : Int32} (hp : pc + 1 = pc') (hd : decode c.code pc = .ok (.dcmp o, 1)) (hv : cmpValue (FP.dcmp x y) o = v) (k : own_Goes p e below T (mkF m pc' Ls (.int v :: st)) Q) : own_Goes p e below T (mkF m pc Ls (.double y :: .double x :: st)) Q := by
  subst hp; exact own_step (fun _ q => XS.dcmpS X.here hx rfl hd rfl hv q) k
theorem own_dadd (X : Stand p l e R s m args below meth c T locs cells slots) (hx : p.tables.exec = Jvm.exec) {x y v : UInt64} (hp : pc + 1 = pc') (hd : decode c.code pc = .ok (.dadd, 1)) (hn : Jvm.Free.Fl.NoNaN64 (FP.dadd x y)) (hv : FP.dadd x y = v) (k : own_Goes p e below T (mkF m pc' Ls (.double v :: st)) Q) : own_Goes p e below T (mkF m pc Ls (.double y :: .double x :: st)) Q := by
  subst hp; exact own_step (fun _ q => XS.daddS X.here hx rfl hd rfl hn hv q) k
theorem own_dsub (X : Stand p l e R s m args below meth c T locs cells slots) (hx : p.tables.exec = Jvm.exec) {x y v : UInt64} (hp : pc + 1 = pc') (hd : decode c.code pc = .ok (.dsub, 1)) (hn : Jvm.Free.Fl.NoNaN64 (FP.dsub x y)) (hv : FP.dsub x y = v) (k : own_Goes p e below T (mkF m pc' Ls (.double v :: st)) Q) : own_Goes p e below T (mkF m pc Ls (.double y :: .double x :: st)) Q := by
  subst hp; exact own_step (fun _ q => XS.dsubS X.here hx rfl hd rfl hn hv q) k
theorem own_dmul (X : Stand p l e R s m args below meth c T locs cells slots) (hx : p.tables.exec = Jvm.exec) {x y v : UInt64} (hp : pc + 1 = pc') (hd : decode c.code pc = .ok (.dmul, 1)) (hn : Jvm.Free.Fl.NoNaN64 (FP.dmul x y)) (hv : FP.dmul x y = v) (k : own_Goes p e below T (mkF m pc' Ls (.double v :: st)) Q) : own_Goes p e below T (mkF m pc Ls (.double y :: .double x :: st)) Q := by
  subst hp; exact own_step (fun _ q => XS.dmulS X.here hx rfl hd rfl hn hv q) k
theorem own_ddiv (X : Stand p l e R s m args below meth c T locs cells slots) (hx : p.tables.exec = Jvm.exec) {x y v : UInt64} (hp : pc + 1 = pc') (hd : decode c.code pc = .ok (.ddiv, 1)) (hn : Jvm.Free.Fl.NoNaN64 (FP.ddiv x y)) (hv : FP.ddiv x y = v) (k : own_Goes p e below T (mkF m pc' Ls (.double v :: st)) Q) : own_Goes p e below T (mkF m pc Ls (.double y :: .double x :: st)) Q := by
  subst hp; exact own_step (fun _ q => XS.ddivS X.here hx rfl hd rfl hn hv q) k
theorem own_ldcD (X : Stand p l e R s m args below meth c T locs cells slots) (hx : p.tables.exec = Jvm.exec) (hZ : Z.Warmed39 s.vm) {own : String} {index : Nat} {v : UInt64} (hown : s.vm.findClass own = some m.cls) (w : (Jvm.Cond.constantDouble own index v).before a0 Z = true) (hp : pc + 3 = pc') (hd : decode c.code pc = .ok (.ldc2_w index, 3)) (k : own_Goes p e below T (mkF m pc' Ls (.double v :: st)) Q) : own_Goes p e below T (mkF m pc Ls st) Q := by
  subst hp; exact own_step (fun t q => X.ldc2DoubleC hx hown (mvT hZ w) (g := mkF m pc Ls st) rfl hd t q) k
theorem own_dret (X : Stand p l e R s m args below meth c T locs cells slots) (hx : p.tables.exec = Jvm.exec) (hlk : meth.locks = false) {z : UInt64} (hret : meth.sig.returnType = some .double) (hd : decode c.code pc = .ok (.dreturn, 1)) {K : Option Value → Heap → List Loc → Prop} {rc rs : Nat} (hc : cells ≤ rc) (hs : slots ≤ rs) (hQ : K (some (.double z)) T.heap locs) : own_Goes p e below T (mkF m pc Ls (.double z :: st)) (own_Ret s K rc rs) :=
  own_retW X hx hlk (fun q => by rw [hret] at q; cases q) (fun fs hr => retOut X hx hret rfl (Or.inr (Or.inr (Or.inl ⟨rfl, rfl, z, rfl⟩))) hd hr) hc hs hQ
theorem own_getF (X : Stand p l e R s m args below meth c T locs cells slots) (hx : p.tables.exec = Jvm.exec) (hZ : Z.Warmed39 s.vm) {own R0 O n d host : String} {index : Nat} (hown : s.vm.findClass own = some m.cls) (w : (Jvm.Cond.fieldLink own index R0 n d).before a0 Z = true ∨ (Jvm.Cond.fieldLinkNest own index R0 n d host).before a0 Z = true) (via : Via Z R0 O n d) (eT : T.heap = h) {a : Addr} {v : Value} (F : Fld Z h a O n d v) (hp : pc + 3 = pc') (hd : decode c.code pc = .ok (.getfield index, 3))
    (k : ∀ T', Stand p l e R s m args below meth c T' locs cells slots → T'.heap = h → own_Goes p e below T' (mkF m pc' Ls (v :: st)) Q) : own_Goes p e below T (mkF m pc Ls (.ref a :: st)) Q := by
  subst hp
  obtain ⟨T', X', e', stp⟩ := getF X hx hZ hown w via eT F (g := mkF m pc Ls (.ref a :: st)) rfl rfl hd
  exact own_step stp (k T' X' e')
theorem own_putF (X : Stand p l e R s m args below meth c T locs cells slots) (hx : p.tables.exec = Jvm.exec) (hZ : Z.Warmed39 s.vm) {own R0 O n d host C : String} {index kk : Nat} {ty : FieldType} (hown : s.vm.findClass own = some m.cls) (w : (Jvm.Cond.fieldLink own index R0 n d).before a0 Z = true ∨ (Jvm.Cond.fieldLinkNest own index R0 n d host).before a0 Z = true) (via : Via Z R0 O n d) (eT : T.heap = h) {a : Addr} {v old : Value} (F : Fld Z h a O n d old) (E : Exa Z h a C)
    (L : (Jvm.Cond.lays C O n d).before a0 Z = true ∨ ((Jvm.Cond.laysFinal C O n d).before a0 Z = true ∧ own = O ∧ meth.name = "<init>")) (wi : (Jvm.Cond.instantiable C kk).before a0 Z = true) (hty : parseFieldDescriptor d = some ty) (hn : narrow ty v = v) (hf : fits ty v = true) (hp : pc + 3 = pc') (hd : decode c.code pc = .ok (.putfield index, 3))
    (k : ∀ T' h', Stand p l e R s m args below meth c T' (locs ++ [⟨a, Jvm.RoadKit.slotOf Z O n d⟩]) cells slots → T'.heap = h' → Wr h h' a (Jvm.RoadKit.slotOf Z O n d) v → own_Goes p e below T' (mkF m pc' Ls st) Q) : own_Goes p e below T (mkF m pc Ls (v :: .ref a :: st)) Q := by
  subst hp
  obtain ⟨T', h', X', e', W', stp⟩ := putF X hx hZ hown w via eT F E L wi hty hn hf (g := mkF m pc Ls (v :: .ref a :: st)) rfl rfl hd
  exact own_step stp (k T' h' X' e' W')
theorem own_getS (X : Stand p l e R s m args below meth c T locs cells slots) (hx : p.tables.exec = Jvm.exec) (hZ : Z.Warmed39 s.vm) {own R0 O n d : String} {index : Nat} (hown : s.vm.findClass own = some m.cls) (w : (Jvm.Cond.fieldLink own index R0 n d).before a0 Z = true) (via : Via Z R0 O n d) (eT : T.heap = h) {v : Value} (F : Sta Z h O n d v) (hp : pc + 3 = pc') (hd : decode c.code pc = .ok (.getstatic index, 3))
    (k : ∀ T', Stand p l e R s m args below meth c T' locs cells slots → T'.heap = h → own_Goes p e below T' (mkF m pc' Ls (v :: st)) Q) : own_Goes p e below T (mkF m pc Ls st) Q := by
  subst hp
  obtain ⟨T', X', e', stp⟩ := getS X hx hZ (host := "") hown w via eT F (g := mkF m pc Ls st) rfl hd
  exact own_step stp (k T' X' e')
theorem own_new (X : Stand p l e R s m args below meth c T locs cells slots) (hx : p.tables.exec = Jvm.exec) (hZ : Z.Warmed39 s.vm) {own C : String} {index n : Nat} (hown : s.vm.findClass own = some m.cls) (w : (Jvm.Cond.classLink own index C).before a0 Z = true) (wi : (Jvm.Cond.instantiable C n).before a0 Z = true) (wz : (Jvm.Cond.initialized C).before a0 Z = true) (eT : T.heap = h) (hp : pc + 3 = pc') (hd : decode c.code pc = .ok (.new index, 3)) (hc : cells + 1 ≤ R.cells) (hl : slots + n ≤ R.slots)
    (k : ∀ T' h', Stand p l e R s m args below meth c T' locs (cells + 1) (slots + n) → T'.heap = h' → Ext h h' → Exa Z h' h.size C → (∀ {O nm d : String} {ty : FieldType}, Laid Z a0 C O nm d → parseFieldDescriptor d = some ty → Fld Z h' h.size O nm d (defaultValue ty)) → own_Goes p e below T' (mkF m pc' Ls (.ref h.size :: st)) Q) : own_Goes p e below T (mkF m pc Ls st) Q := by
  subst hp
  obtain ⟨T', h', X', e', E', A', D', -, stp⟩ := newO X hx hZ hown w wi wz eT (g := mkF m pc Ls st) rfl hd hc hl
  exact own_step stp (k T' h' X' e' E' A' D')
theorem own_initO (X : Stand p l e R s m args below meth c T locs cells slots) (hx : p.tables.exec = Jvm.exec) (hZ : Z.Warmed39 s.vm) {own : String} {idx : Nat} (hown : s.vm.findClass own = some m.cls) (w1 : (Jvm.Cond.methodLink own idx Lib.objectInit).before a0 Z = true) (w2 : (Jvm.Cond.instanceMethod Lib.objectInit).before a0 Z = true) (w3 : (Jvm.Cond.code Lib.objectInit ⟨#[0xb1]⟩ 1 none).before a0 Z = true) (eT : T.heap = h) (hsize : Ls.size = c.maxLocals) {a : Addr} (hp : pc + 3 = pc') (hd : decode c.code pc = .ok (.invokespecial idx, 3)) (hf : 1 ≤ R.frames) {W : Nat} (hW : (st.map fun v => v.category).sum ≤ W) (hl : W + 12 ≤ R.locals)
    (k : ∀ T', Stand p l e R s m args below meth c T' locs cells slots → T'.heap = h → own_Goes p e below T' (mkF m pc' Ls st) Q) : own_Goes p e below T (mkF m pc Ls (.ref a :: st)) Q := by
  subst hp
  obtain ⟨T', X', e', stp⟩ := initO X hx hZ hown w1 w2 w3 eT (g := mkF m pc Ls (.ref a :: st)) rfl hsize rfl hd hf (W := W) (by show 2 * 0 + _ ≤ _; omega) hl
  exact own_step stp (k T' X' e')
theorem own_callS (X : Stand p l e R s m args below meth c T locs cells slots) (hx : p.tables.exec = Jvm.exec) (hZ : Z.Warmed39 s.vm) {own : String} {index : Nat} {y : MethodName} {bytes : ByteArray} {maxL : Nat} {rt : Option FieldType} (hown : s.vm.findClass own = some m.cls) (w1 : (Jvm.Cond.methodLink own index y).before a0 Z = true) (w2 : (Jvm.Cond.static y).before a0 Z = true) (w3 : (Jvm.Cond.initialized y.cls).before a0 Z = true) (w4 : (Jvm.Cond.code y bytes maxL rt).before a0 Z = true) (hy : y.cls ≠ "java/lang/invoke/MethodHandle" ∧ y.cls ≠ "java/lang/invoke/VarHandle") {rm : Room} {as' : Array Value} {K : Option Value → Heap → List Loc → Prop} {W : Nat} (hM : MetFree l y (head1 [Jvm.Cond.code y bytes maxL rt] rm) (fun a U => a = as' ∧ Z.Warmed39 U.vm ∧ U.heap = h) (fun _ _ _ _ _ => True) (fun _ U o U' => ∃ v L, o = .returned v ∧ K v U'.heap L ∧ FrameEnd U o U' L rm.cells rm.slots)) (hf : rm.frames + 1 ≤ R.frames) (hl : W + (maxL + 11) + rm.locals ≤ R.locals) (hc : cells + rm.cells ≤ R.cells) (hs : slots + rm.slots ≤ R.slots) (eT : T.heap = h) (hsize : Ls.size = c.maxLocals) {argsL rest : List Value} (has : argsL.toArray = as') (hlen : ∀ sig, parseMethodDescriptor y.desc = some sig → argsL.length = sig.parameters.length) (hst : st = argsL.reverse ++ rest) (hW : (rest.map fun v => v.category).sum ≤ W) (hp : pc + 3 = pc') (hd : decode c.code pc = .ok (.invokestatic index, 3))
    (k : ∀ v T' L, Stand p l e R s m args below meth c T' (locs ++ L) (cells + rm.cells) (slots + rm.slots) → K v T'.heap L → own_Goes p e below T' (mkF m pc' Ls (v.toList ++ rest)) Q) : own_Goes p e below T (mkF m pc Ls st) Q := by
  subst hp
  obtain ⟨v, _, ⟨T', L', k', n'⟩, -, X', ⟨Lc, hQ, l1, y1, z1⟩, stp⟩ := Jvm.LawKit.callS X hx (y := y) hown (mvT hZ w1) (mvT hZ w2) (mvT hZ w3) (mvT hZ w4) hy (backOf (W := W) hM hZ w4 w3 hf hl) (g := mkF m pc Ls st) rfl hsize (argsL := argsL) (rest := rest) hlen hst (by show 2 * 0 + _ ≤ _; omega) hd (fun _ _ => ⟨has, eT, hc, hs⟩)
  dsimp only [Pt.U, Pt.locs, Pt.cells, Pt.slots] at X' l1 y1 z1 stp hQ
  subst l1 y1 z1
  exact own_step stp (k v T' Lc X' hQ)
theorem own_callC (X : Stand p l e R s m args below meth c T locs cells slots) (hx : p.tables.exec = Jvm.exec) (hZ : Z.Warmed39 s.vm) {own : String} {index : Nat} {y : MethodName} {bytes : ByteArray} {maxL : Nat} {a : Addr} (hy1 : y.name = "<init>") (hown : s.vm.findClass own = some m.cls) (w1 : (Jvm.Cond.methodLink own index y).before a0 Z = true) (w2 : (Jvm.Cond.instanceMethod y).before a0 Z = true) (w3 : (Jvm.Cond.initialized y.cls).before a0 Z = true) (w4 : (Jvm.Cond.code y bytes maxL none).before a0 Z = true) (hy : y.cls ≠ "java/lang/invoke/MethodHandle" ∧ y.cls ≠ "java/lang/invoke/VarHandle") {rm : Room} {as' : Array Value} {K : Option Value → Heap → List Loc → Prop} {W : Nat} (hM : MetFree l y (head1 [Jvm.Cond.code y bytes maxL none] rm) (fun a U => a = as' ∧ Z.Warmed39 U.vm ∧ U.heap = h) (fun _ _ _ _ _ => True) (fun _ U o U' => ∃ v L, o = .returned v ∧ K v U'.heap L ∧ FrameEnd U o U' L rm.cells rm.slots)) (hf : rm.frames + 1 ≤ R.frames) (hl : W + (maxL + 11) + rm.locals ≤ R.locals) (hc : cells + rm.cells ≤ R.cells) (hs : slots + rm.slots ≤ R.slots) (eT : T.heap = h) (hsize : Ls.size = c.maxLocals) {argsL rest : List Value} (has : (Value.ref a :: argsL).toArray = as') (hlen : ∀ sig, parseMethodDescriptor y.desc = some sig → argsL.length = sig.parameters.length) (hst : st = argsL.reverse ++ .ref a :: rest) (hW : (rest.map fun v => v.category).sum ≤ W) (hp : pc + 3 = pc') (hd : decode c.code pc = .ok (.invokespecial index, 3))
    (k : ∀ v T' L, Stand p l e R s m args below meth c T' (locs ++ L) (cells + rm.cells) (slots + rm.slots) → K v T'.heap L → own_Goes p e below T' (mkF m pc' Ls (v.toList ++ rest)) Q) : own_Goes p e below T (mkF m pc Ls st) Q := by
  subst hp
  obtain ⟨v, _, ⟨T', L', k', n'⟩, -, X', ⟨Lc, hQ, l1, y1, z1⟩, stp⟩ := X.specialBack hx (y := y) hy1 hown (mvT hZ w1) (mvT hZ w2) (mvT hZ w4) hy (backOf (W := W) hM hZ w4 w3 hf hl) (g := mkF m pc Ls st) rfl hsize (Steps.refl _) (a := a) (argsL := argsL) (rest := rest) hlen hst (by show 2 * 0 + _ ≤ _; omega) hd (fun _ _ => ⟨has, eT, hc, hs⟩)
  dsimp only [Pt.U, Pt.locs, Pt.cells, Pt.slots] at X' l1 y1 z1 stp hQ
  subst l1 y1 z1
  exact own_step (fun _ q => stp.trans q) (k v T' Lc X' hQ)
theorem own_callV (X : Stand p l e R s m args below meth c T locs cells slots) (hx : p.tables.exec = Jvm.exec) (hZ : Z.Warmed39 s.vm) {own C : String} {index : Nat} {y : MethodName} {bytes : ByteArray} {maxL : Nat} {rt : Option FieldType} {a : Addr} (hown : s.vm.findClass own = some m.cls) (w1 : (Jvm.Cond.methodLink own index y).before a0 Z = true) (w2 : (Jvm.Cond.declares y).before a0 Z = true) (w5 : (Jvm.Cond.selects C y y).before a0 Z = true) (w6 : (Jvm.Cond.instanceMethod y).before a0 Z = true) (w3 : (Jvm.Cond.initialized y.cls).before a0 Z = true) (w4 : (Jvm.Cond.code y bytes maxL rt).before a0 Z = true) (E : Exa Z h a C) (hy : y.cls ≠ "java/lang/invoke/MethodHandle" ∧ y.cls ≠ "java/lang/invoke/VarHandle") {rm : Room} {as' : Array Value} {K : Option Value → Heap → List Loc → Prop} {W : Nat} (hM : MetFree l y (head1 [Jvm.Cond.code y bytes maxL rt] rm) (fun a U => a = as' ∧ Z.Warmed39 U.vm ∧ U.heap = h) (fun _ _ _ _ _ => True) (fun _ U o U' => ∃ v L, o = .returned v ∧ K v U'.heap L ∧ FrameEnd U o U' L rm.cells rm.slots)) (hf : rm.frames + 1 ≤ R.frames) (hl : W + (maxL + 11) + rm.locals ≤ R.locals) (hc : cells + rm.cells ≤ R.cells) (hs : slots + rm.slots ≤ R.slots) (eT : T.heap = h) (hsize : Ls.size = c.maxLocals) {argsL rest : List Value} (has : (Value.ref a :: argsL).toArray = as') (hlen : ∀ sig, parseMethodDescriptor y.desc = some sig → argsL.length = sig.parameters.length) (hst : st = argsL.reverse ++ .ref a :: rest) (hW : (rest.map fun v => v.category).sum ≤ W) (hp : pc + 3 = pc') (hd : decode c.code pc = .ok (.invokevirtual index, 3))
    (k : ∀ v T' L, Stand p l e R s m args below meth c T' (locs ++ L) (cells + rm.cells) (slots + rm.slots) → K v T'.heap L → own_Goes p e below T' (mkF m pc' Ls (v.toList ++ rest)) Q) : own_Goes p e below T (mkF m pc Ls st) Q := by
  subst hp
  obtain ⟨cq, kq, qa, qb, qc⟩ := isOf hZ eT E
  obtain ⟨v, _, ⟨T', L', k', n'⟩, -, X', ⟨Lc, hQ, l1, y1, z1⟩, stp⟩ := X.virtualBack hx (y := y) (z := y) hown (mvT hZ w1) (mvT hZ w2) (notFace_of_selects (args := #[]) (mvT hZ w5)) (mvT hZ w5) (mvT hZ w6) hy (backOf (W := W) hM hZ w4 w3 hf hl) qa qc (g := mkF m pc Ls st) rfl hsize (Steps.refl _) (argsL := argsL) (rest := rest) hlen hst (by show 2 * 0 + _ ≤ _; omega) hd (fun _ _ => ⟨has, eT, hc, hs⟩)
  dsimp only [Pt.U, Pt.locs, Pt.cells, Pt.slots] at X' l1 y1 z1 stp hQ
  subst l1 y1 z1
  exact own_step (fun _ q => stp.trans q) (k v T' Lc X' hQ)
theorem own_callP (X : Stand p l e R s m args below meth c T locs cells slots) (hx : p.tables.exec = Jvm.exec) (hZ : Z.Warmed39 s.vm) {own C : String} {index : Nat} {y z z' : MethodName} {bytes : ByteArray} {maxL : Nat} {rt : Option FieldType} {a : Addr} {D : String} (hown : s.vm.findClass own = some m.cls) (w1 : (Jvm.Cond.methodLink own index y).before a0 Z = true) (w6 : (Jvm.Cond.instanceMethod y).before a0 Z = true) (w7 : (Jvm.Cond.privateMethod y).before a0 Z = true) (w5 : (Jvm.Cond.selects C z z').before a0 Z = true) (hcls : z'.cls = y.cls) (w3 : (Jvm.Cond.initialized y.cls).before a0 Z = true) (w4 : (Jvm.Cond.code y bytes maxL rt).before a0 Z = true) (E : Exa Z h a D) (hy : y.cls ≠ "java/lang/invoke/MethodHandle" ∧ y.cls ≠ "java/lang/invoke/VarHandle") {rm : Room} {as' : Array Value} {K : Option Value → Heap → List Loc → Prop} {W : Nat} (hM : MetFree l y (head1 [Jvm.Cond.code y bytes maxL rt] rm) (fun a U => a = as' ∧ Z.Warmed39 U.vm ∧ U.heap = h) (fun _ _ _ _ _ => True) (fun _ U o U' => ∃ v L, o = .returned v ∧ K v U'.heap L ∧ FrameEnd U o U' L rm.cells rm.slots)) (hf : rm.frames + 1 ≤ R.frames) (hl : W + (maxL + 11) + rm.locals ≤ R.locals) (hc : cells + rm.cells ≤ R.cells) (hs : slots + rm.slots ≤ R.slots) (eT : T.heap = h) (hsize : Ls.size = c.maxLocals) {argsL rest : List Value} (has : (Value.ref a :: argsL).toArray = as') (hlen : ∀ sig, parseMethodDescriptor y.desc = some sig → argsL.length = sig.parameters.length) (hst : st = argsL.reverse ++ .ref a :: rest) (hW : (rest.map fun v => v.category).sum ≤ W) (hp : pc + 3 = pc') (hd : decode c.code pc = .ok (.invokevirtual index, 3))
    (k : ∀ v T' L, Stand p l e R s m args below meth c T' (locs ++ L) (cells + rm.cells) (slots + rm.slots) → K v T'.heap L → own_Goes p e below T' (mkF m pc' Ls (v.toList ++ rest)) Q) : own_Goes p e below T (mkF m pc Ls st) Q := by
  subst hp
  have hs5 : (Jvm.Cond.selects C z z').before args s = true := mvT hZ w5
  obtain ⟨c2, r2, m2, -, -, q3, -, kP, hkP, hkPi⟩ := Cond.selects_spec hs5
  have hc2 : s.vm.findClass y.cls = some m2.cls := hcls ▸ findClass_of_methodNamed q3
  have hpriv := Cond.privateMethod_at (mvP hZ w7 (args := #[]))
  have hinst : (Jvm.Cond.instanceMethod y).before args s = true := mvT hZ w6
  have hsel := selects_self_of_private (args := args) hc2 hkP hkPi hpriv hinst hy
  obtain ⟨cq, qc, qc'⟩ := E.cell
  obtain ⟨v, _, ⟨T', L', k', n'⟩, -, X', ⟨Lc, hQ, l1, y1, z1⟩, stp⟩ := X.privateBack hx (y := y) hown (mvT hZ w1) hinst hsel hpriv (mvT hZ w4) hy (backOf (W := W) hM hZ w4 w3 hf hl) (g := mkF m pc Ls st) rfl hsize (Steps.refl _) (a := a) (cell := cq) (by rw [eT]; exact qc) qc' (argsL := argsL) (rest := rest) hlen hst (by show 2 * 0 + _ ≤ _; omega) hd (fun _ _ => ⟨has, eT, hc, hs⟩)
  dsimp only [Pt.U, Pt.locs, Pt.cells, Pt.slots] at X' l1 y1 z1 stp hQ
  subst l1 y1 z1
  exact own_step (fun _ q => stp.trans q) (k v T' Lc X' hQ)
theorem own_in {j : Int32} {k n : Nat} (hj : ¬ j < 0) (hk : j.toNatClampNeg = k) (hn : k < n) {cl : Cell} (hs : cl.slots.size = n) : ¬ (j < 0 ∨ cl.slots.size ≤ j.toNatClampNeg) := by
  rintro (q | q)
  · exact hj q
  · omega
theorem own_Arr.lt {a : Addr} {ty : FieldType} {n : Nat} {f : Nat → Value} (A : own_Arr Z h a ty n f) : a < h.size := by obtain ⟨c, A, -⟩ := A; exact A.lt
theorem own_Arr.ext {a : Addr} {ty : FieldType} {n : Nat} {f : Nat → Value} (E : Ext h h') (A : own_Arr Z h a ty n f) : own_Arr Z h' a ty n f := by obtain ⟨c, A, r⟩ := A; exact ⟨c, A.ext E, r⟩
theorem own_Arr.other {a b : Addr} {ty : FieldType} {n sl : Nat} {v : Value} {f : Nat → Value} (W : Wr h h' a sl v) (A : own_Arr Z h b ty n f) (q : b ≠ a) : own_Arr Z h' b ty n f := by obtain ⟨c, A, r⟩ := A; exact ⟨c, A.other W q, r⟩
theorem own_Arr.keep {a : Addr} {ty : FieldType} {n : Nat} {ws : List Addr} {f : Nat → Value} (K : Keep h h' ws) (A : own_Arr Z h a ty n f) (q : a ∉ ws) : own_Arr Z h' a ty n f := by obtain ⟨c, A, r⟩ := A; exact ⟨c, ⟨K.2.1 a c A.1 q, A.2⟩, r⟩
theorem own_Arr.congr {a : Addr} {ty : FieldType} {n : Nat} {f g : Nat → Value} (A : own_Arr Z h a ty n f) (q : ∀ j, j < n → f j = g j) : own_Arr Z h a ty n g := by
  obtain ⟨c, A, r1, r2, r3⟩ := A
  exact ⟨c, A, r1, r2, fun j hj => by rw [r3 j hj, q j hj]⟩
theorem own_sizWr {a : Addr} {sl n0 : Nat} {v : Value} (W : Wr h h' a sl v) (q : n0 ≤ h.size) : n0 ≤ h'.size := by rw [W.size]; exact q
theorem own_Arr.set {a : Addr} {ty : FieldType} {n k : Nat} {f : Nat → Value} {v : Value} {cl : Cell} (A : Arr Z h a cl ty) (r1 : cl.slots.size = n) (r2 : n < 2 ^ 31) (r3 : ∀ j, j < n → cl.slots[j]? = some (f j)) (hk : k < n) (W : Wr h h' a k v) : own_Arr Z h' a ty n (own_upd f k v) := by
  refine ⟨cl.setSlot k v, Arr.same W A, by rw [sz_set]; exact r1, r2, fun j hj => ?_⟩
  show (cl.slots.setIfInBounds k v)[j]? = _
  rw [Array.getElem?_setIfInBounds]
  by_cases q : k = j
  · subst q; simp [own_upd, r1, hk]
  · have q' : ¬ j = k := fun z => q z.symm
    simp [own_upd, q, q', r3 j hj]
theorem own_newarr (X : Stand p l e R s m args below meth c T locs cells slots) (hx : p.tables.exec = Jvm.exec) (hZ : Z.Warmed39 s.vm) {aty : ArrayType} (w : (Jvm.Cond.arrayClass (newarray.typeOf aty)).before a0 Z = true) (eT : T.heap = h) {n : Int32} (hp : pc + 2 = pc') (hd : decode c.code pc = .ok (.newarray aty, 2)) (hn : ¬ n < 0) {N : Nat} (hN : n.toNatClampNeg = N) {cap : Nat} (hcap : n.toNatClampNeg ≤ cap) (hb : cap * 8 ≤ 536870912) (hc : cells + 1 ≤ R.cells) (hl : slots + cap ≤ R.slots)
    (k : ∀ T' h', Stand p l e R s m args below meth c T' locs (cells + 1) (slots + cap) → T'.heap = h' → Ext h h' → own_Arr Z h' h.size (newarray.typeOf aty) N (fun _ => defaultValue (newarray.typeOf aty)) → own_Goes p e below T' (mkF m pc' Ls (.ref h.size :: st)) Q) : own_Goes p e below T (mkF m pc Ls (.int n :: st)) Q := by
  subst hp
  obtain ⟨T', h', cA, X', e', E', A', stp⟩ := newP X hx hZ w eT (g := mkF m pc Ls (.int n :: st)) rfl hd rfl hn hcap hb hc hl
  refine own_step stp (k T' h' X' e' E' ⟨_, A', by rw [sz_new, hN], by rw [← hN]; exact (back32 hn).2, fun j hj => ?_⟩)
  simp [newA, hN, hj]
theorem own_stI (X : Stand p l e R s m args below meth c T locs cells slots) (hx : p.tables.exec = Jvm.exec) (hZ : Z.Warmed39 s.vm) (eT : T.heap = h) {a : Addr} {n k : Nat} {f : Nat → Value} (A : own_Arr Z h a .int n f) {j : Int32} {x : Int32} (hj : ¬ j < 0) (hk : j.toNatClampNeg = k) (hn : k < n)  (hp : pc + 1 = pc') (hd : decode c.code pc = .ok (.iastore, 1))
    (q : ∀ T' h', Stand p l e R s m args below meth c T' (locs ++ [⟨a, k⟩]) cells slots → T'.heap = h' → Wr h h' a k (.int x) → own_Arr Z h' a .int n (own_upd f k (.int x)) → own_Goes p e below T' (mkF m pc' Ls st) Q) : own_Goes p e below T (mkF m pc Ls (.int x :: .int j :: .ref a :: st)) Q := by
  subst hp
  obtain ⟨cl, A, r1, r2, r3⟩ := A
  obtain ⟨T', h', X', e', W', stp⟩ := stI X hx hZ eT A (own_in hj hk hn r1) (g := mkF m pc Ls (.int x :: .int j :: .ref a :: st)) rfl rfl hd
  subst hk
  exact own_step stp (q T' h' X' e' W' (own_Arr.set A r1 r2 r3 hn W'))
theorem own_stJ (X : Stand p l e R s m args below meth c T locs cells slots) (hx : p.tables.exec = Jvm.exec) (hZ : Z.Warmed39 s.vm) (eT : T.heap = h) {a : Addr} {n k : Nat} {f : Nat → Value} (A : own_Arr Z h a .long n f) {j : Int32} {x : Int64} (hj : ¬ j < 0) (hk : j.toNatClampNeg = k) (hn : k < n)  (hp : pc + 1 = pc') (hd : decode c.code pc = .ok (.lastore, 1))
    (q : ∀ T' h', Stand p l e R s m args below meth c T' (locs ++ [⟨a, k⟩]) cells slots → T'.heap = h' → Wr h h' a k (.long x) → own_Arr Z h' a .long n (own_upd f k (.long x)) → own_Goes p e below T' (mkF m pc' Ls st) Q) : own_Goes p e below T (mkF m pc Ls (.long x :: .int j :: .ref a :: st)) Q := by
  subst hp
  obtain ⟨cl, A, r1, r2, r3⟩ := A
  obtain ⟨T', h', X', e', W', stp⟩ := stJ X hx hZ eT A (own_in hj hk hn r1) (g := mkF m pc Ls (.long x :: .int j :: .ref a :: st)) rfl rfl hd
  subst hk
  exact own_step stp (q T' h' X' e' W' (own_Arr.set A r1 r2 r3 hn W'))
theorem own_stB (X : Stand p l e R s m args below meth c T locs cells slots) (hx : p.tables.exec = Jvm.exec) (hZ : Z.Warmed39 s.vm) (eT : T.heap = h) {a : Addr} {n k : Nat} {f : Nat → Value} (A : own_Arr Z h a .byte n f) {j : Int32} {x y : Int32} (hj : ¬ j < 0) (hk : j.toNatClampNeg = k) (hn : k < n) (hv : nar .byte x = y) (hp : pc + 1 = pc') (hd : decode c.code pc = .ok (.bastore, 1))
    (q : ∀ T' h', Stand p l e R s m args below meth c T' (locs ++ [⟨a, k⟩]) cells slots → T'.heap = h' → Wr h h' a k (.int y) → own_Arr Z h' a .byte n (own_upd f k (.int y)) → own_Goes p e below T' (mkF m pc' Ls st) Q) : own_Goes p e below T (mkF m pc Ls (.int x :: .int j :: .ref a :: st)) Q := by
  subst hp; subst hv
  obtain ⟨cl, A, r1, r2, r3⟩ := A
  obtain ⟨T', h', X', e', W', stp⟩ := stB X hx hZ eT A (own_in hj hk hn r1) (g := mkF m pc Ls (.int x :: .int j :: .ref a :: st)) rfl rfl hd
  subst hk
  exact own_step stp (q T' h' X' e' W' (own_Arr.set A r1 r2 r3 hn W'))
theorem own_stC (X : Stand p l e R s m args below meth c T locs cells slots) (hx : p.tables.exec = Jvm.exec) (hZ : Z.Warmed39 s.vm) (eT : T.heap = h) {a : Addr} {n k : Nat} {f : Nat → Value} (A : own_Arr Z h a .char n f) {j : Int32} {x y : Int32} (hj : ¬ j < 0) (hk : j.toNatClampNeg = k) (hn : k < n) (hv : nar .char x = y) (hp : pc + 1 = pc') (hd : decode c.code pc = .ok (.castore, 1))
    (q : ∀ T' h', Stand p l e R s m args below meth c T' (locs ++ [⟨a, k⟩]) cells slots → T'.heap = h' → Wr h h' a k (.int y) → own_Arr Z h' a .char n (own_upd f k (.int y)) → own_Goes p e below T' (mkF m pc' Ls st) Q) : own_Goes p e below T (mkF m pc Ls (.int x :: .int j :: .ref a :: st)) Q := by
  subst hp; subst hv
  obtain ⟨cl, A, r1, r2, r3⟩ := A
  obtain ⟨T', h', X', e', W', stp⟩ := stC X hx hZ eT A (own_in hj hk hn r1) (g := mkF m pc Ls (.int x :: .int j :: .ref a :: st)) rfl rfl hd
  subst hk
  exact own_step stp (q T' h' X' e' W' (own_Arr.set A r1 r2 r3 hn W'))
theorem own_ldI (X : Stand p l e R s m args below meth c T locs cells slots) (hx : p.tables.exec = Jvm.exec) (hZ : Z.Warmed39 s.vm) (eT : T.heap = h) {a : Addr} {n k : Nat} {f : Nat → Value} (A : own_Arr Z h a .int n f) {j : Int32} (hj : ¬ j < 0) (hk : j.toNatClampNeg = k) (hn : k < n) {v : Value} (hv : f k = v) (hp : pc + 1 = pc') (hd : decode c.code pc = .ok (.iaload, 1)) (q : own_Goes p e below T (mkF m pc' Ls (v :: st)) Q) : own_Goes p e below T (mkF m pc Ls (.int j :: .ref a :: st)) Q := by
  subst hp
  obtain ⟨cl, A, r1, r2, r3⟩ := A
  exact own_step (fun t z => X.iaload hx (j := j) (v := v) (by rw [eT]; exact A.1) (State.isArrayOf_alike hZ.alike A.2.1) A.2.2 (own_in hj hk hn r1) (by rw [hk, r3 k hn, hv]) (g := mkF m pc Ls (.int j :: .ref a :: st)) rfl rfl hd t z) q
theorem own_ldJ (X : Stand p l e R s m args below meth c T locs cells slots) (hx : p.tables.exec = Jvm.exec) (hZ : Z.Warmed39 s.vm) (eT : T.heap = h) {a : Addr} {n k : Nat} {f : Nat → Value} (A : own_Arr Z h a .long n f) {j : Int32} (hj : ¬ j < 0) (hk : j.toNatClampNeg = k) (hn : k < n) {v : Value} (hv : f k = v) (hp : pc + 1 = pc') (hd : decode c.code pc = .ok (.laload, 1)) (q : own_Goes p e below T (mkF m pc' Ls (v :: st)) Q) : own_Goes p e below T (mkF m pc Ls (.int j :: .ref a :: st)) Q := by
  subst hp
  obtain ⟨cl, A, r1, r2, r3⟩ := A
  exact own_step (fun t z => X.laload hx (j := j) (v := v) (by rw [eT]; exact A.1) (State.isArrayOf_alike hZ.alike A.2.1) A.2.2 (own_in hj hk hn r1) (by rw [hk, r3 k hn, hv]) (g := mkF m pc Ls (.int j :: .ref a :: st)) rfl rfl hd t z) q
theorem own_ldB (X : Stand p l e R s m args below meth c T locs cells slots) (hx : p.tables.exec = Jvm.exec) (hZ : Z.Warmed39 s.vm) (eT : T.heap = h) {a : Addr} {n k : Nat} {f : Nat → Value} (A : own_Arr Z h a .byte n f) {j : Int32} (hj : ¬ j < 0) (hk : j.toNatClampNeg = k) (hn : k < n) {v : Value} (hv : f k = v) (hp : pc + 1 = pc') (hd : decode c.code pc = .ok (.baload, 1)) (q : own_Goes p e below T (mkF m pc' Ls (v :: st)) Q) : own_Goes p e below T (mkF m pc Ls (.int j :: .ref a :: st)) Q := by
  subst hp
  obtain ⟨cl, A, r1, r2, r3⟩ := A
  exact own_step (fun t z => X.baloadBytes hx (j := j) (v := v) (by rw [eT]; exact A.1) (State.isArrayOf_alike hZ.alike A.2.1) A.2.2 (own_in hj hk hn r1) (by rw [hk, r3 k hn, hv]) (g := mkF m pc Ls (.int j :: .ref a :: st)) rfl rfl hd t z) q
theorem own_ldC (X : Stand p l e R s m args below meth c T locs cells slots) (hx : p.tables.exec = Jvm.exec) (hZ : Z.Warmed39 s.vm) (eT : T.heap = h) {a : Addr} {n k : Nat} {f : Nat → Value} (A : own_Arr Z h a .char n f) {j : Int32} (hj : ¬ j < 0) (hk : j.toNatClampNeg = k) (hn : k < n) {v : Value} (hv : f k = v) (hp : pc + 1 = pc') (hd : decode c.code pc = .ok (.caload, 1)) (q : own_Goes p e below T (mkF m pc' Ls (v :: st)) Q) : own_Goes p e below T (mkF m pc Ls (.int j :: .ref a :: st)) Q := by
  subst hp
  obtain ⟨cl, A, r1, r2, r3⟩ := A
  exact own_step (fun t z => X.caload hx (j := j) (v := v) (by rw [eT]; exact A.1) (State.isArrayOf_alike hZ.alike A.2.1) A.2.2 (own_in hj hk hn r1) (by rw [hk, r3 k hn, hv]) (g := mkF m pc Ls (.int j :: .ref a :: st)) rfl rfl hd t z) q
theorem own_len (X : Stand p l e R s m args below meth c T locs cells slots) (hx : p.tables.exec = Jvm.exec) (hZ : Z.Warmed39 s.vm) (eT : T.heap = h) {a : Addr} {ty : FieldType} {n : Nat} {f : Nat → Value} (A : own_Arr Z h a ty n f) {v : Int32} (hv : n.toInt32 = v) (hp : pc + 1 = pc') (hd : decode c.code pc = .ok (.arraylength, 1)) (q : own_Goes p e below T (mkF m pc' Ls (.int v :: st)) Q) : own_Goes p e below T (mkF m pc Ls (.ref a :: st)) Q := by
  subst hp; subst hv
  obtain ⟨cl, A, r1, r2, r3⟩ := A
  subst r1
  exact own_step (fun t z => X.arraylength hx (cell := cl) (by rw [eT]; exact A.1) (State.isArrayOf_alike hZ.alike A.2.1) (g := mkF m pc Ls (.ref a :: st)) rfl rfl hd t z) q
theorem own_instY (X : Stand p l e R s m args below meth c T locs cells slots) (hx : p.tables.exec = Jvm.exec) (hZ : Z.Warmed39 s.vm) {own K : String} {index : Nat} (hown : s.vm.findClass own = some m.cls) (w : (Jvm.Cond.classLink own index K).before a0 Z = true) (eT : T.heap = h) {a : Addr} (F : Ins Z h a K true) (hp : pc + 3 = pc') (hd : decode c.code pc = .ok (.instanceof index, 3))
    (k : ∀ T', Stand p l e R s m args below meth c T' locs cells slots → T'.heap = h → own_Goes p e below T' (mkF m pc' Ls (.int 1 :: st)) Q) : own_Goes p e below T (mkF m pc Ls (.ref a :: st)) Q := by
  subst hp
  obtain ⟨T', X', e', stp⟩ := instY X hx hZ hown w eT F (g := mkF m pc Ls (.ref a :: st)) rfl rfl hd
  exact own_step stp (k T' X' e')
theorem own_castY (X : Stand p l e R s m args below meth c T locs cells slots) (hx : p.tables.exec = Jvm.exec) (hZ : Z.Warmed39 s.vm) {own K : String} {index : Nat} (hown : s.vm.findClass own = some m.cls) (w : (Jvm.Cond.classLink own index K).before a0 Z = true) (eT : T.heap = h) {a : Addr} (F : Ins Z h a K true) (hp : pc + 3 = pc') (hd : decode c.code pc = .ok (.checkcast index, 3))
    (k : ∀ T', Stand p l e R s m args below meth c T' locs cells slots → T'.heap = h → own_Goes p e below T' (mkF m pc' Ls (.ref a :: st)) Q) : own_Goes p e below T (mkF m pc Ls (.ref a :: st)) Q := by
  subst hp
  obtain ⟨T', X', e', stp⟩ := castY X hx hZ hown w eT F (g := mkF m pc Ls (.ref a :: st)) rfl rfl hd
  exact own_step stp (k T' X' e')
theorem own_instNo (X : Stand p l e R s m args below meth c T locs cells slots) (hx : p.tables.exec = Jvm.exec) (hZ : Z.Warmed39 s.vm) {own K C : String} {index : Nat} (hown : s.vm.findClass own = some m.cls) (w : (Jvm.Cond.classLink own index K).before a0 Z = true) (eT : T.heap = h) {a : Addr} (E : Exa Z h a C) (F : ∃ c t, Z.vm.findClass C = some c ∧ Z.vm.findClass K = some t ∧ Z.vm.assignable c t = false) (hp : pc + 3 = pc') (hd : decode c.code pc = .ok (.instanceof index, 3))
    (k : ∀ T', Stand p l e R s m args below meth c T' locs cells slots → T'.heap = h → own_Goes p e below T' (mkF m pc' Ls (.int 0 :: st)) Q) : own_Goes p e below T (mkF m pc Ls (.ref a :: st)) Q := by
  subst hp
  obtain ⟨T', X', e', stp⟩ := instNo X hx hZ hown w eT E F (g := mkF m pc Ls (.ref a :: st)) rfl rfl hd
  exact own_step stp (k T' X' e')
theorem own_instNull (X : Stand p l e R s m args below meth c T locs cells slots) (hx : p.tables.exec = Jvm.exec) {index : Nat} (hp : pc + 3 = pc') (hd : decode c.code pc = .ok (.instanceof index, 3)) (k : own_Goes p e below T (mkF m pc' Ls (.int 0 :: st)) Q) : own_Goes p e below T (mkF m pc Ls (.null :: st)) Q := by
  subst hp; exact own_step (fun t q => X.instanceofNull hx (g := mkF m pc Ls (.null :: st)) rfl rfl hd t q) k
theorem own_fitR {v : Value} {C : String} (hv : v.isRef = true) : fits (.object C) v = true := by cases v <;> simp_all [fits, Value.isRef]
end Own
/-! 2. THE BODIES -/
def own_plans (u : Int64) (c : Int32) : Int64 := if c = (1 : Int32) then 1 else if c = (2 : Int32) then (u + (1 : Int64)) else if c = (3 : Int32) then (((u + (1 : Int64)) * (u + (2 : Int64))) / (2 : Int64)) else if c = (4 : Int32) then (if u < (4096 : Int64) then ((((u + (1 : Int64)) * (u + (2 : Int64))) * (u + (3 : Int64))) / (6 : Int64)) else (1099511627776 : Int64)) else if c = (5 : Int32) then (if u < (1024 : Int64) then (((((u + (1 : Int64)) * (u + (2 : Int64))) * (u + (3 : Int64))) * (u + (4 : Int64))) / (24 : Int64)) else (1099511627776 : Int64)) else if u < (256 : Int64) then ((((((u + (1 : Int64)) * (u + (2 : Int64))) * (u + (3 : Int64))) * (u + (4 : Int64))) * (u + (5 : Int64))) / (120 : Int64)) else (1099511627776 : Int64)
theorem ef_rm_plans (m : MethodId) (q1 : Int64) (p2 : Int32) : entryFrame m #[(.long q1), (.int p2)] 3 = mkF m 0 #[.val (.long q1), .second, .val (.int p2)] [] := by first | (simp [entryFrame, mkF, argsToLocals, Value.category]; done) | rfl
def K_rm_plans  (Z : State) (h0 : Heap) (n0 : Nat) (q1 : Int64) (p2 : Int32) (v : Option Value) (h : Heap) (L : List Loc) : Prop := v = some (.long (own_plans q1 p2)) ∧ Fr n0 L ∧ h = h0
theorem d_method_2_code_0 : decode method_2_code 0 = .ok (.iload_n 2, 1) := by decide +kernel
theorem d_method_2_code_1 : decode method_2_code 1 = .ok (.iconst 1, 1) := by decide +kernel
theorem d_method_2_code_2 : decode method_2_code 2 = .ok (.if_icmp .ne 5, 3) := by decide +kernel
theorem d_method_2_code_5 : decode method_2_code 5 = .ok (.lconst 1, 1) := by decide +kernel
theorem d_method_2_code_6 : decode method_2_code 6 = .ok (.lreturn, 1) := by decide +kernel
theorem d_method_2_code_7 : decode method_2_code 7 = .ok (.iload_n 2, 1) := by decide +kernel
theorem d_method_2_code_8 : decode method_2_code 8 = .ok (.iconst 2, 1) := by decide +kernel
theorem d_method_2_code_9 : decode method_2_code 9 = .ok (.if_icmp .ne 7, 3) := by decide +kernel
theorem d_method_2_code_12 : decode method_2_code 12 = .ok (.lload_n 0, 1) := by decide +kernel
theorem d_method_2_code_13 : decode method_2_code 13 = .ok (.lconst 1, 1) := by decide +kernel
theorem d_method_2_code_14 : decode method_2_code 14 = .ok (.ladd, 1) := by decide +kernel
theorem d_method_2_code_15 : decode method_2_code 15 = .ok (.lreturn, 1) := by decide +kernel
theorem d_method_2_code_16 : decode method_2_code 16 = .ok (.iload_n 2, 1) := by decide +kernel
theorem d_method_2_code_17 : decode method_2_code 17 = .ok (.iconst 3, 1) := by decide +kernel
theorem d_method_2_code_18 : decode method_2_code 18 = .ok (.if_icmp .ne 17, 3) := by decide +kernel
theorem d_method_2_code_21 : decode method_2_code 21 = .ok (.lload_n 0, 1) := by decide +kernel
theorem d_method_2_code_22 : decode method_2_code 22 = .ok (.lconst 1, 1) := by decide +kernel
theorem d_method_2_code_23 : decode method_2_code 23 = .ok (.ladd, 1) := by decide +kernel
theorem d_method_2_code_24 : decode method_2_code 24 = .ok (.lload_n 0, 1) := by decide +kernel
theorem d_method_2_code_25 : decode method_2_code 25 = .ok (.ldc2_w 7, 3) := by decide +kernel
theorem d_method_2_code_28 : decode method_2_code 28 = .ok (.ladd, 1) := by decide +kernel
theorem d_method_2_code_29 : decode method_2_code 29 = .ok (.lmul, 1) := by decide +kernel
theorem d_method_2_code_30 : decode method_2_code 30 = .ok (.ldc2_w 7, 3) := by decide +kernel
theorem d_method_2_code_33 : decode method_2_code 33 = .ok (.ldiv, 1) := by decide +kernel
theorem d_method_2_code_34 : decode method_2_code 34 = .ok (.lreturn, 1) := by decide +kernel
theorem d_method_2_code_35 : decode method_2_code 35 = .ok (.iload_n 2, 1) := by decide +kernel
theorem d_method_2_code_36 : decode method_2_code 36 = .ok (.iconst 4, 1) := by decide +kernel
theorem d_method_2_code_37 : decode method_2_code 37 = .ok (.if_icmp .ne 35, 3) := by decide +kernel
theorem d_method_2_code_40 : decode method_2_code 40 = .ok (.lload_n 0, 1) := by decide +kernel
theorem d_method_2_code_41 : decode method_2_code 41 = .ok (.ldc2_w 9, 3) := by decide +kernel
theorem d_method_2_code_44 : decode method_2_code 44 = .ok (.lcmp, 1) := by decide +kernel
theorem d_method_2_code_45 : decode method_2_code 45 = .ok (.ifCond .lt 7, 3) := by decide +kernel
theorem d_method_2_code_52 : decode method_2_code 52 = .ok (.lload_n 0, 1) := by decide +kernel
theorem d_method_2_code_53 : decode method_2_code 53 = .ok (.lconst 1, 1) := by decide +kernel
theorem d_method_2_code_54 : decode method_2_code 54 = .ok (.ladd, 1) := by decide +kernel
theorem d_method_2_code_55 : decode method_2_code 55 = .ok (.lload_n 0, 1) := by decide +kernel
theorem d_method_2_code_56 : decode method_2_code 56 = .ok (.ldc2_w 7, 3) := by decide +kernel
theorem d_method_2_code_59 : decode method_2_code 59 = .ok (.ladd, 1) := by decide +kernel
theorem d_method_2_code_60 : decode method_2_code 60 = .ok (.lmul, 1) := by decide +kernel
theorem d_method_2_code_61 : decode method_2_code 61 = .ok (.lload_n 0, 1) := by decide +kernel
theorem d_method_2_code_62 : decode method_2_code 62 = .ok (.ldc2_w 15, 3) := by decide +kernel
theorem d_method_2_code_65 : decode method_2_code 65 = .ok (.ladd, 1) := by decide +kernel
theorem d_method_2_code_66 : decode method_2_code 66 = .ok (.lmul, 1) := by decide +kernel
theorem d_method_2_code_67 : decode method_2_code 67 = .ok (.ldc2_w 17, 3) := by decide +kernel
theorem d_method_2_code_70 : decode method_2_code 70 = .ok (.ldiv, 1) := by decide +kernel
theorem d_method_2_code_71 : decode method_2_code 71 = .ok (.lreturn, 1) := by decide +kernel
theorem d_method_2_code_48 : decode method_2_code 48 = .ok (.ldc2_w 13, 3) := by decide +kernel
theorem d_method_2_code_51 : decode method_2_code 51 = .ok (.lreturn, 1) := by decide +kernel
theorem d_method_2_code_72 : decode method_2_code 72 = .ok (.iload_n 2, 1) := by decide +kernel
theorem d_method_2_code_73 : decode method_2_code 73 = .ok (.iconst 5, 1) := by decide +kernel
theorem d_method_2_code_74 : decode method_2_code 74 = .ok (.if_icmp .ne 41, 3) := by decide +kernel
theorem d_method_2_code_77 : decode method_2_code 77 = .ok (.lload_n 0, 1) := by decide +kernel
theorem d_method_2_code_78 : decode method_2_code 78 = .ok (.ldc2_w 19, 3) := by decide +kernel
theorem d_method_2_code_81 : decode method_2_code 81 = .ok (.lcmp, 1) := by decide +kernel
theorem d_method_2_code_82 : decode method_2_code 82 = .ok (.ifCond .lt 7, 3) := by decide +kernel
theorem d_method_2_code_89 : decode method_2_code 89 = .ok (.lload_n 0, 1) := by decide +kernel
theorem d_method_2_code_90 : decode method_2_code 90 = .ok (.lconst 1, 1) := by decide +kernel
theorem d_method_2_code_91 : decode method_2_code 91 = .ok (.ladd, 1) := by decide +kernel
theorem d_method_2_code_92 : decode method_2_code 92 = .ok (.lload_n 0, 1) := by decide +kernel
theorem d_method_2_code_93 : decode method_2_code 93 = .ok (.ldc2_w 7, 3) := by decide +kernel
theorem d_method_2_code_96 : decode method_2_code 96 = .ok (.ladd, 1) := by decide +kernel
theorem d_method_2_code_97 : decode method_2_code 97 = .ok (.lmul, 1) := by decide +kernel
theorem d_method_2_code_98 : decode method_2_code 98 = .ok (.lload_n 0, 1) := by decide +kernel
theorem d_method_2_code_99 : decode method_2_code 99 = .ok (.ldc2_w 15, 3) := by decide +kernel
theorem d_method_2_code_102 : decode method_2_code 102 = .ok (.ladd, 1) := by decide +kernel
theorem d_method_2_code_103 : decode method_2_code 103 = .ok (.lmul, 1) := by decide +kernel
theorem d_method_2_code_104 : decode method_2_code 104 = .ok (.lload_n 0, 1) := by decide +kernel
theorem d_method_2_code_105 : decode method_2_code 105 = .ok (.ldc2_w 21, 3) := by decide +kernel
theorem d_method_2_code_108 : decode method_2_code 108 = .ok (.ladd, 1) := by decide +kernel
theorem d_method_2_code_109 : decode method_2_code 109 = .ok (.lmul, 1) := by decide +kernel
theorem d_method_2_code_110 : decode method_2_code 110 = .ok (.ldc2_w 23, 3) := by decide +kernel
theorem d_method_2_code_113 : decode method_2_code 113 = .ok (.ldiv, 1) := by decide +kernel
theorem d_method_2_code_114 : decode method_2_code 114 = .ok (.lreturn, 1) := by decide +kernel
theorem d_method_2_code_85 : decode method_2_code 85 = .ok (.ldc2_w 13, 3) := by decide +kernel
theorem d_method_2_code_88 : decode method_2_code 88 = .ok (.lreturn, 1) := by decide +kernel
theorem d_method_2_code_115 : decode method_2_code 115 = .ok (.lload_n 0, 1) := by decide +kernel
theorem d_method_2_code_116 : decode method_2_code 116 = .ok (.ldc2_w 25, 3) := by decide +kernel
theorem d_method_2_code_119 : decode method_2_code 119 = .ok (.lcmp, 1) := by decide +kernel
theorem d_method_2_code_120 : decode method_2_code 120 = .ok (.ifCond .lt 7, 3) := by decide +kernel
theorem d_method_2_code_127 : decode method_2_code 127 = .ok (.lload_n 0, 1) := by decide +kernel
theorem d_method_2_code_128 : decode method_2_code 128 = .ok (.lconst 1, 1) := by decide +kernel
theorem d_method_2_code_129 : decode method_2_code 129 = .ok (.ladd, 1) := by decide +kernel
theorem d_method_2_code_130 : decode method_2_code 130 = .ok (.lload_n 0, 1) := by decide +kernel
theorem d_method_2_code_131 : decode method_2_code 131 = .ok (.ldc2_w 7, 3) := by decide +kernel
theorem d_method_2_code_134 : decode method_2_code 134 = .ok (.ladd, 1) := by decide +kernel
theorem d_method_2_code_135 : decode method_2_code 135 = .ok (.lmul, 1) := by decide +kernel
theorem d_method_2_code_136 : decode method_2_code 136 = .ok (.lload_n 0, 1) := by decide +kernel
theorem d_method_2_code_137 : decode method_2_code 137 = .ok (.ldc2_w 15, 3) := by decide +kernel
theorem d_method_2_code_140 : decode method_2_code 140 = .ok (.ladd, 1) := by decide +kernel
theorem d_method_2_code_141 : decode method_2_code 141 = .ok (.lmul, 1) := by decide +kernel
theorem d_method_2_code_142 : decode method_2_code 142 = .ok (.lload_n 0, 1) := by decide +kernel
theorem d_method_2_code_143 : decode method_2_code 143 = .ok (.ldc2_w 21, 3) := by decide +kernel
theorem d_method_2_code_146 : decode method_2_code 146 = .ok (.ladd, 1) := by decide +kernel
theorem d_method_2_code_147 : decode method_2_code 147 = .ok (.lmul, 1) := by decide +kernel
theorem d_method_2_code_148 : decode method_2_code 148 = .ok (.lload_n 0, 1) := by decide +kernel
theorem d_method_2_code_149 : decode method_2_code 149 = .ok (.ldc2_w 27, 3) := by decide +kernel
theorem d_method_2_code_152 : decode method_2_code 152 = .ok (.ladd, 1) := by decide +kernel
theorem d_method_2_code_153 : decode method_2_code 153 = .ok (.lmul, 1) := by decide +kernel
theorem d_method_2_code_154 : decode method_2_code 154 = .ok (.ldc2_w 29, 3) := by decide +kernel
theorem d_method_2_code_157 : decode method_2_code 157 = .ok (.ldiv, 1) := by decide +kernel
theorem d_method_2_code_158 : decode method_2_code 158 = .ok (.lreturn, 1) := by decide +kernel
theorem d_method_2_code_123 : decode method_2_code 123 = .ok (.ldc2_w 13, 3) := by decide +kernel
theorem d_method_2_code_126 : decode method_2_code 126 = .ok (.lreturn, 1) := by decide +kernel
theorem pn_com_example_tranchery_tranchery_solve_PlanFewerThanPinLaw : plainName "com/example/tranchery/tranchery/solve/PlanFewerThanPinLaw" = true := by first | (simp [plainName, overriddenIn]; done) | decide +kernel
set_option maxRecDepth 65536 in
set_option maxHeartbeats 40000000 in
theorem rm_plans (l : Launch) (Z : State) (a0 : Array Value) (hw : ∀ d ∈ tables_1, d.before a0 Z = true) (ws : List Jvm.Cond)  (q1 : Int64) (p2 : Int32) (h0 : Heap) (n0 : Nat) (Z0 : n0 ≤ h0.size) :
    MetFree l (⟨"com/example/tranchery/tranchery/solve/PlanFewerThanPinLaw", "plans", "(JI)J"⟩ : MethodName) (head1 (Jvm.Cond.code (⟨"com/example/tranchery/tranchery/solve/PlanFewerThanPinLaw", "plans", "(JI)J"⟩ : MethodName) method_2_code 3 (some .long) :: ws) ({ frames := 0, cells := 0, slots := 0, locals := 0 } : Room)) (fun a U => a = #[(.long q1), (.int p2)] ∧ Z.Warmed39 U.vm ∧ U.heap = h0) (fun _ _ _ _ _ => True) (fun _ U o U' => ∃ v L, o = .returned v ∧ (K_rm_plans  Z h0 n0 q1 p2) v U'.heap L ∧ FrameEnd U o U' L ({ frames := 0, cells := 0, slots := 0, locals := 0 } : Room).cells ({ frames := 0, cells := 0, slots := 0, locals := 0 } : Room).slots) := by
  refine own_body (plainFor_of_name pn_com_example_tranchery_tranchery_solve_PlanFewerThanPinLaw) ?_
  intro p e s m below meth c s₁ hx hby hml hown hnm hret hlk hZ X0 e0
  have hown : s.vm.findClass "com/example/tranchery/tranchery/solve/PlanFewerThanPinLaw" = some m.cls := hown
  have N0 := Fr.nil n0
  rw [ef_rm_plans m q1 p2]
  refine own_iloadN X0 hx (pc' := 1) rfl (hb hby d_method_2_code_0) rfl ?_
  refine own_iconst X0 hx (v := (1 : Int32)) (pc' := 2) rfl (hb hby d_method_2_code_1) rfl ?_
  by_cases c2_1 : p2 = (1 : Int32)
  · refine own_icmpF X0 hx (pc' := 5) rfl (hb hby d_method_2_code_2) (XT.ii_ne_f c2_1) ?_
    refine own_lconst X0 hx (v := (1 : Int64)) (pc' := 6) rfl (hb hby d_method_2_code_5) rfl ?_
    refine own_lret X0 hx hlk hret (hb hby d_method_2_code_6) (by decide) (by decide) ?_
    rw [e0]
    exact ⟨by first | (simp only [own_plans, if_pos c2_1]; done) | (simp only [own_plans, if_pos c2_1]; rfl), N0, rfl⟩
  · refine own_icmpT X0 hx (pc' := 7) (hb hby d_method_2_code_2) (XT.ii_ne_t c2_1) (by decide) (by decide) ?_
    refine own_iloadN X0 hx (pc' := 8) rfl (hb hby d_method_2_code_7) rfl ?_
    refine own_iconst X0 hx (v := (2 : Int32)) (pc' := 9) rfl (hb hby d_method_2_code_8) rfl ?_
    by_cases c9_2 : p2 = (2 : Int32)
    · refine own_icmpF X0 hx (pc' := 12) rfl (hb hby d_method_2_code_9) (XT.ii_ne_f c9_2) ?_
      refine own_lloadN X0 hx (pc' := 13) rfl (hb hby d_method_2_code_12) rfl ?_
      refine own_lconst X0 hx (v := (1 : Int64)) (pc' := 14) rfl (hb hby d_method_2_code_13) rfl ?_
      refine own_ladd X0 hx (v := (q1 + (1 : Int64))) (pc' := 15) rfl (hb hby d_method_2_code_14) rfl ?_
      refine own_lret X0 hx hlk hret (hb hby d_method_2_code_15) (by decide) (by decide) ?_
      rw [e0]
      exact ⟨by first | (simp only [own_plans, if_neg c2_1, if_pos c9_2]; done) | (simp only [own_plans, if_neg c2_1, if_pos c9_2]; rfl), N0, rfl⟩
    · refine own_icmpT X0 hx (pc' := 16) (hb hby d_method_2_code_9) (XT.ii_ne_t c9_2) (by decide) (by decide) ?_
      refine own_iloadN X0 hx (pc' := 17) rfl (hb hby d_method_2_code_16) rfl ?_
      refine own_iconst X0 hx (v := (3 : Int32)) (pc' := 18) rfl (hb hby d_method_2_code_17) rfl ?_
      by_cases c18_3 : p2 = (3 : Int32)
      · refine own_icmpF X0 hx (pc' := 21) rfl (hb hby d_method_2_code_18) (XT.ii_ne_f c18_3) ?_
        refine own_lloadN X0 hx (pc' := 22) rfl (hb hby d_method_2_code_21) rfl ?_
        refine own_lconst X0 hx (v := (1 : Int64)) (pc' := 23) rfl (hb hby d_method_2_code_22) rfl ?_
        refine own_ladd X0 hx (v := (q1 + (1 : Int64))) (pc' := 24) rfl (hb hby d_method_2_code_23) rfl ?_
        refine own_lloadN X0 hx (pc' := 25) rfl (hb hby d_method_2_code_24) rfl ?_
        refine own_ldc2_w X0 hx hZ hown (hw _ (List.mem_of_getElem? (i := 6) rfl)) (pc' := 28) rfl (hb hby d_method_2_code_25) ?_
        refine own_ladd X0 hx (v := (q1 + (2 : Int64))) (pc' := 29) rfl (hb hby d_method_2_code_28) rfl ?_
        refine own_lmul X0 hx (v := ((q1 + (1 : Int64)) * (q1 + (2 : Int64)))) (pc' := 30) rfl (hb hby d_method_2_code_29) rfl ?_
        refine own_ldc2_w X0 hx hZ hown (hw _ (List.mem_of_getElem? (i := 6) rfl)) (pc' := 33) rfl (hb hby d_method_2_code_30) ?_
        refine own_ldiv X0 hx (v := (((q1 + (1 : Int64)) * (q1 + (2 : Int64))) / (2 : Int64))) (pc' := 34) rfl (hb hby d_method_2_code_33) (by decide) rfl ?_
        refine own_lret X0 hx hlk hret (hb hby d_method_2_code_34) (by decide) (by decide) ?_
        rw [e0]
        exact ⟨by first | (simp only [own_plans, if_neg c2_1, if_neg c9_2, if_pos c18_3]; done) | (simp only [own_plans, if_neg c2_1, if_neg c9_2, if_pos c18_3]; rfl), N0, rfl⟩
      · refine own_icmpT X0 hx (pc' := 35) (hb hby d_method_2_code_18) (XT.ii_ne_t c18_3) (by decide) (by decide) ?_
        refine own_iloadN X0 hx (pc' := 36) rfl (hb hby d_method_2_code_35) rfl ?_
        refine own_iconst X0 hx (v := (4 : Int32)) (pc' := 37) rfl (hb hby d_method_2_code_36) rfl ?_
        by_cases c37_4 : p2 = (4 : Int32)
        · refine own_icmpF X0 hx (pc' := 40) rfl (hb hby d_method_2_code_37) (XT.ii_ne_f c37_4) ?_
          refine own_lloadN X0 hx (pc' := 41) rfl (hb hby d_method_2_code_40) rfl ?_
          refine own_ldc2_w X0 hx hZ hown (hw _ (List.mem_of_getElem? (i := 18) rfl)) (pc' := 44) rfl (hb hby d_method_2_code_41) ?_
          refine own_lcmp X0 hx (pc' := 45) rfl (hb hby d_method_2_code_44) ?_
          by_cases c45_5 : q1 < (4096 : Int64)
          · refine own_ifT X0 hx (pc' := 52) (hb hby d_method_2_code_45) (XT.ll_lt_t c45_5) (by decide) (by decide) ?_
            refine own_lloadN X0 hx (pc' := 53) rfl (hb hby d_method_2_code_52) rfl ?_
            refine own_lconst X0 hx (v := (1 : Int64)) (pc' := 54) rfl (hb hby d_method_2_code_53) rfl ?_
            refine own_ladd X0 hx (v := (q1 + (1 : Int64))) (pc' := 55) rfl (hb hby d_method_2_code_54) rfl ?_
            refine own_lloadN X0 hx (pc' := 56) rfl (hb hby d_method_2_code_55) rfl ?_
            refine own_ldc2_w X0 hx hZ hown (hw _ (List.mem_of_getElem? (i := 6) rfl)) (pc' := 59) rfl (hb hby d_method_2_code_56) ?_
            refine own_ladd X0 hx (v := (q1 + (2 : Int64))) (pc' := 60) rfl (hb hby d_method_2_code_59) rfl ?_
            refine own_lmul X0 hx (v := ((q1 + (1 : Int64)) * (q1 + (2 : Int64)))) (pc' := 61) rfl (hb hby d_method_2_code_60) rfl ?_
            refine own_lloadN X0 hx (pc' := 62) rfl (hb hby d_method_2_code_61) rfl ?_
            refine own_ldc2_w X0 hx hZ hown (hw _ (List.mem_of_getElem? (i := 13) rfl)) (pc' := 65) rfl (hb hby d_method_2_code_62) ?_
            refine own_ladd X0 hx (v := (q1 + (3 : Int64))) (pc' := 66) rfl (hb hby d_method_2_code_65) rfl ?_
            refine own_lmul X0 hx (v := (((q1 + (1 : Int64)) * (q1 + (2 : Int64))) * (q1 + (3 : Int64)))) (pc' := 67) rfl (hb hby d_method_2_code_66) rfl ?_
            refine own_ldc2_w X0 hx hZ hown (hw _ (List.mem_of_getElem? (i := 19) rfl)) (pc' := 70) rfl (hb hby d_method_2_code_67) ?_
            refine own_ldiv X0 hx (v := ((((q1 + (1 : Int64)) * (q1 + (2 : Int64))) * (q1 + (3 : Int64))) / (6 : Int64))) (pc' := 71) rfl (hb hby d_method_2_code_70) (by decide) rfl ?_
            refine own_lret X0 hx hlk hret (hb hby d_method_2_code_71) (by decide) (by decide) ?_
            rw [e0]
            exact ⟨by first | (simp only [own_plans, if_neg c2_1, if_neg c9_2, if_neg c18_3, if_pos c37_4, if_pos c45_5]; done) | (simp only [own_plans, if_neg c2_1, if_neg c9_2, if_neg c18_3, if_pos c37_4, if_pos c45_5]; rfl), N0, rfl⟩
          · refine own_ifF X0 hx (pc' := 48) rfl (hb hby d_method_2_code_45) (XT.ll_lt_f c45_5) ?_
            refine own_ldc2_w X0 hx hZ hown (hw _ (List.mem_of_getElem? (i := 17) rfl)) (pc' := 51) rfl (hb hby d_method_2_code_48) ?_
            refine own_lret X0 hx hlk hret (hb hby d_method_2_code_51) (by decide) (by decide) ?_
            rw [e0]
            exact ⟨by first | (simp only [own_plans, if_neg c2_1, if_neg c9_2, if_neg c18_3, if_pos c37_4, if_neg c45_5]; done) | (simp only [own_plans, if_neg c2_1, if_neg c9_2, if_neg c18_3, if_pos c37_4, if_neg c45_5]; rfl), N0, rfl⟩
        · refine own_icmpT X0 hx (pc' := 72) (hb hby d_method_2_code_37) (XT.ii_ne_t c37_4) (by decide) (by decide) ?_
          refine own_iloadN X0 hx (pc' := 73) rfl (hb hby d_method_2_code_72) rfl ?_
          refine own_iconst X0 hx (v := (5 : Int32)) (pc' := 74) rfl (hb hby d_method_2_code_73) rfl ?_
          by_cases c74_6 : p2 = (5 : Int32)
          · refine own_icmpF X0 hx (pc' := 77) rfl (hb hby d_method_2_code_74) (XT.ii_ne_f c74_6) ?_
            refine own_lloadN X0 hx (pc' := 78) rfl (hb hby d_method_2_code_77) rfl ?_
            refine own_ldc2_w X0 hx hZ hown (hw _ (List.mem_of_getElem? (i := 12) rfl)) (pc' := 81) rfl (hb hby d_method_2_code_78) ?_
            refine own_lcmp X0 hx (pc' := 82) rfl (hb hby d_method_2_code_81) ?_
            by_cases c82_7 : q1 < (1024 : Int64)
            · refine own_ifT X0 hx (pc' := 89) (hb hby d_method_2_code_82) (XT.ll_lt_t c82_7) (by decide) (by decide) ?_
              refine own_lloadN X0 hx (pc' := 90) rfl (hb hby d_method_2_code_89) rfl ?_
              refine own_lconst X0 hx (v := (1 : Int64)) (pc' := 91) rfl (hb hby d_method_2_code_90) rfl ?_
              refine own_ladd X0 hx (v := (q1 + (1 : Int64))) (pc' := 92) rfl (hb hby d_method_2_code_91) rfl ?_
              refine own_lloadN X0 hx (pc' := 93) rfl (hb hby d_method_2_code_92) rfl ?_
              refine own_ldc2_w X0 hx hZ hown (hw _ (List.mem_of_getElem? (i := 6) rfl)) (pc' := 96) rfl (hb hby d_method_2_code_93) ?_
              refine own_ladd X0 hx (v := (q1 + (2 : Int64))) (pc' := 97) rfl (hb hby d_method_2_code_96) rfl ?_
              refine own_lmul X0 hx (v := ((q1 + (1 : Int64)) * (q1 + (2 : Int64)))) (pc' := 98) rfl (hb hby d_method_2_code_97) rfl ?_
              refine own_lloadN X0 hx (pc' := 99) rfl (hb hby d_method_2_code_98) rfl ?_
              refine own_ldc2_w X0 hx hZ hown (hw _ (List.mem_of_getElem? (i := 13) rfl)) (pc' := 102) rfl (hb hby d_method_2_code_99) ?_
              refine own_ladd X0 hx (v := (q1 + (3 : Int64))) (pc' := 103) rfl (hb hby d_method_2_code_102) rfl ?_
              refine own_lmul X0 hx (v := (((q1 + (1 : Int64)) * (q1 + (2 : Int64))) * (q1 + (3 : Int64)))) (pc' := 104) rfl (hb hby d_method_2_code_103) rfl ?_
              refine own_lloadN X0 hx (pc' := 105) rfl (hb hby d_method_2_code_104) rfl ?_
              refine own_ldc2_w X0 hx hZ hown (hw _ (List.mem_of_getElem? (i := 14) rfl)) (pc' := 108) rfl (hb hby d_method_2_code_105) ?_
              refine own_ladd X0 hx (v := (q1 + (4 : Int64))) (pc' := 109) rfl (hb hby d_method_2_code_108) rfl ?_
              refine own_lmul X0 hx (v := ((((q1 + (1 : Int64)) * (q1 + (2 : Int64))) * (q1 + (3 : Int64))) * (q1 + (4 : Int64)))) (pc' := 110) rfl (hb hby d_method_2_code_109) rfl ?_
              refine own_ldc2_w X0 hx hZ hown (hw _ (List.mem_of_getElem? (i := 15) rfl)) (pc' := 113) rfl (hb hby d_method_2_code_110) ?_
              refine own_ldiv X0 hx (v := (((((q1 + (1 : Int64)) * (q1 + (2 : Int64))) * (q1 + (3 : Int64))) * (q1 + (4 : Int64))) / (24 : Int64))) (pc' := 114) rfl (hb hby d_method_2_code_113) (by decide) rfl ?_
              refine own_lret X0 hx hlk hret (hb hby d_method_2_code_114) (by decide) (by decide) ?_
              rw [e0]
              exact ⟨by first | (simp only [own_plans, if_neg c2_1, if_neg c9_2, if_neg c18_3, if_neg c37_4, if_pos c74_6, if_pos c82_7]; done) | (simp only [own_plans, if_neg c2_1, if_neg c9_2, if_neg c18_3, if_neg c37_4, if_pos c74_6, if_pos c82_7]; rfl), N0, rfl⟩
            · refine own_ifF X0 hx (pc' := 85) rfl (hb hby d_method_2_code_82) (XT.ll_lt_f c82_7) ?_
              refine own_ldc2_w X0 hx hZ hown (hw _ (List.mem_of_getElem? (i := 17) rfl)) (pc' := 88) rfl (hb hby d_method_2_code_85) ?_
              refine own_lret X0 hx hlk hret (hb hby d_method_2_code_88) (by decide) (by decide) ?_
              rw [e0]
              exact ⟨by first | (simp only [own_plans, if_neg c2_1, if_neg c9_2, if_neg c18_3, if_neg c37_4, if_pos c74_6, if_neg c82_7]; done) | (simp only [own_plans, if_neg c2_1, if_neg c9_2, if_neg c18_3, if_neg c37_4, if_pos c74_6, if_neg c82_7]; rfl), N0, rfl⟩
          · refine own_icmpT X0 hx (pc' := 115) (hb hby d_method_2_code_74) (XT.ii_ne_t c74_6) (by decide) (by decide) ?_
            refine own_lloadN X0 hx (pc' := 116) rfl (hb hby d_method_2_code_115) rfl ?_
            refine own_ldc2_w X0 hx hZ hown (hw _ (List.mem_of_getElem? (i := 16) rfl)) (pc' := 119) rfl (hb hby d_method_2_code_116) ?_
            refine own_lcmp X0 hx (pc' := 120) rfl (hb hby d_method_2_code_119) ?_
            by_cases c120_8 : q1 < (256 : Int64)
            · refine own_ifT X0 hx (pc' := 127) (hb hby d_method_2_code_120) (XT.ll_lt_t c120_8) (by decide) (by decide) ?_
              refine own_lloadN X0 hx (pc' := 128) rfl (hb hby d_method_2_code_127) rfl ?_
              refine own_lconst X0 hx (v := (1 : Int64)) (pc' := 129) rfl (hb hby d_method_2_code_128) rfl ?_
              refine own_ladd X0 hx (v := (q1 + (1 : Int64))) (pc' := 130) rfl (hb hby d_method_2_code_129) rfl ?_
              refine own_lloadN X0 hx (pc' := 131) rfl (hb hby d_method_2_code_130) rfl ?_
              refine own_ldc2_w X0 hx hZ hown (hw _ (List.mem_of_getElem? (i := 6) rfl)) (pc' := 134) rfl (hb hby d_method_2_code_131) ?_
              refine own_ladd X0 hx (v := (q1 + (2 : Int64))) (pc' := 135) rfl (hb hby d_method_2_code_134) rfl ?_
              refine own_lmul X0 hx (v := ((q1 + (1 : Int64)) * (q1 + (2 : Int64)))) (pc' := 136) rfl (hb hby d_method_2_code_135) rfl ?_
              refine own_lloadN X0 hx (pc' := 137) rfl (hb hby d_method_2_code_136) rfl ?_
              refine own_ldc2_w X0 hx hZ hown (hw _ (List.mem_of_getElem? (i := 13) rfl)) (pc' := 140) rfl (hb hby d_method_2_code_137) ?_
              refine own_ladd X0 hx (v := (q1 + (3 : Int64))) (pc' := 141) rfl (hb hby d_method_2_code_140) rfl ?_
              refine own_lmul X0 hx (v := (((q1 + (1 : Int64)) * (q1 + (2 : Int64))) * (q1 + (3 : Int64)))) (pc' := 142) rfl (hb hby d_method_2_code_141) rfl ?_
              refine own_lloadN X0 hx (pc' := 143) rfl (hb hby d_method_2_code_142) rfl ?_
              refine own_ldc2_w X0 hx hZ hown (hw _ (List.mem_of_getElem? (i := 14) rfl)) (pc' := 146) rfl (hb hby d_method_2_code_143) ?_
              refine own_ladd X0 hx (v := (q1 + (4 : Int64))) (pc' := 147) rfl (hb hby d_method_2_code_146) rfl ?_
              refine own_lmul X0 hx (v := ((((q1 + (1 : Int64)) * (q1 + (2 : Int64))) * (q1 + (3 : Int64))) * (q1 + (4 : Int64)))) (pc' := 148) rfl (hb hby d_method_2_code_147) rfl ?_
              refine own_lloadN X0 hx (pc' := 149) rfl (hb hby d_method_2_code_148) rfl ?_
              refine own_ldc2_w X0 hx hZ hown (hw _ (List.mem_of_getElem? (i := 20) rfl)) (pc' := 152) rfl (hb hby d_method_2_code_149) ?_
              refine own_ladd X0 hx (v := (q1 + (5 : Int64))) (pc' := 153) rfl (hb hby d_method_2_code_152) rfl ?_
              refine own_lmul X0 hx (v := (((((q1 + (1 : Int64)) * (q1 + (2 : Int64))) * (q1 + (3 : Int64))) * (q1 + (4 : Int64))) * (q1 + (5 : Int64)))) (pc' := 154) rfl (hb hby d_method_2_code_153) rfl ?_
              refine own_ldc2_w X0 hx hZ hown (hw _ (List.mem_of_getElem? (i := 21) rfl)) (pc' := 157) rfl (hb hby d_method_2_code_154) ?_
              refine own_ldiv X0 hx (v := ((((((q1 + (1 : Int64)) * (q1 + (2 : Int64))) * (q1 + (3 : Int64))) * (q1 + (4 : Int64))) * (q1 + (5 : Int64))) / (120 : Int64))) (pc' := 158) rfl (hb hby d_method_2_code_157) (by decide) rfl ?_
              refine own_lret X0 hx hlk hret (hb hby d_method_2_code_158) (by decide) (by decide) ?_
              rw [e0]
              exact ⟨by first | (simp only [own_plans, if_neg c2_1, if_neg c9_2, if_neg c18_3, if_neg c37_4, if_neg c74_6, if_pos c120_8]; done) | (simp only [own_plans, if_neg c2_1, if_neg c9_2, if_neg c18_3, if_neg c37_4, if_neg c74_6, if_pos c120_8]; rfl), N0, rfl⟩
            · refine own_ifF X0 hx (pc' := 123) rfl (hb hby d_method_2_code_120) (XT.ll_lt_f c120_8) ?_
              refine own_ldc2_w X0 hx hZ hown (hw _ (List.mem_of_getElem? (i := 17) rfl)) (pc' := 126) rfl (hb hby d_method_2_code_123) ?_
              refine own_lret X0 hx hlk hret (hb hby d_method_2_code_126) (by decide) (by decide) ?_
              rw [e0]
              exact ⟨by first | (simp only [own_plans, if_neg c2_1, if_neg c9_2, if_neg c18_3, if_neg c37_4, if_neg c74_6, if_neg c120_8]; done) | (simp only [own_plans, if_neg c2_1, if_neg c9_2, if_neg c18_3, if_neg c37_4, if_neg c74_6, if_neg c120_8]; rfl), N0, rfl⟩
/-! the plain law -/
def own_C : Nat → Int → Int
  | 0, _ => 1
  | n + 1, U => own_C n U * (U + (n + 1)) / (n + 1)
def own_few (n : Nat) (U q : Int) : Int32 := if own_C n U < q then 1 else 0
theorem own_Cstep {n : Nat} {U : Int} (hU : 0 ≤ U) (h : 1 ≤ own_C n U) : own_C n U ≤ own_C (n + 1) U := by
  show own_C n U ≤ own_C n U * (U + (n + 1)) / (n + 1)
  have h1 : own_C n U * ((n : Int) + 1) ≤ own_C n U * (U + (n + 1)) := Int.mul_le_mul_of_nonneg_left (by omega) (by omega)
  exact (Int.le_ediv_iff_mul_le (by omega)).mpr h1
theorem own_Cpos {U : Int} (hU : 0 ≤ U) : ∀ n, 1 ≤ own_C n U
  | 0 => by simp [own_C]
  | n + 1 => Int.le_trans (own_Cpos hU n) (own_Cstep hU (own_Cpos hU n))
theorem own_Cmono {U : Int} (hU : 0 ≤ U) {i n : Nat} (h : i ≤ n) : own_C i U ≤ own_C n U := by
  induction h with
  | refl => exact Int.le_refl _
  | step _ ih => exact Int.le_trans ih (own_Cstep hU (own_Cpos hU _))
theorem own_C1 (U : Int) : own_C 1 U = U + 1 := by simp [own_C]
theorem own_C2 (U : Int) : own_C 2 U = (U + 1) * (U + 2) / 2 := by
  show own_C 1 U * (U + ((1 : Nat) + 1)) / ((1 : Nat) + 1) = _
  rw [own_C1]; rfl
theorem own_two (U : Int) : ∃ k, (U + 1) * (U + 2) = 2 * k := by
  rcases Int.emod_two_eq U with h | h
  · obtain ⟨j, rfl⟩ : ∃ j, U = 2 * j := ⟨U / 2, by omega⟩
    exact ⟨(2 * j + 1) * (j + 1), by grind⟩
  · obtain ⟨j, rfl⟩ : ∃ j, U = 2 * j + 1 := ⟨U / 2, by omega⟩
    exact ⟨(j + 1) * (2 * j + 3), by grind⟩
theorem own_three (U : Int) : ∃ k, (U + 1) * (U + 2) * (U + 3) = 6 * k := by
  have h : U % 6 = 0 ∨ U % 6 = 1 ∨ U % 6 = 2 ∨ U % 6 = 3 ∨ U % 6 = 4 ∨ U % 6 = 5 := by omega
  obtain ⟨j, hj⟩ : ∃ j, j = U / 6 := ⟨_, rfl⟩
  rcases h with h | h | h | h | h | h
  · obtain rfl : U = 6 * j := by omega
    exact ⟨(6 * j + 1) * (3 * j + 1) * (2 * j + 1), by grind⟩
  · obtain rfl : U = 6 * j + 1 := by omega
    exact ⟨(3 * j + 1) * (2 * j + 1) * (6 * j + 4), by grind⟩
  · obtain rfl : U = 6 * j + 2 := by omega
    exact ⟨(2 * j + 1) * (3 * j + 2) * (6 * j + 5), by grind⟩
  · obtain rfl : U = 6 * j + 3 := by omega
    exact ⟨(6 * j + 4) * (6 * j + 5) * (j + 1), by grind⟩
  · obtain rfl : U = 6 * j + 4 := by omega
    exact ⟨(6 * j + 5) * (j + 1) * (6 * j + 7), by grind⟩
  · obtain rfl : U = 6 * j + 5 := by omega
    exact ⟨(j + 1) * (6 * j + 7) * (6 * j + 8), by grind⟩
theorem own_fourN : ∀ n : Nat, ∃ k : Int, ((n : Int) + 1) * (n + 2) * (n + 3) * (n + 4) = 24 * k
  | 0 => ⟨1, by decide⟩
  | n + 1 => by
    obtain ⟨k, hk⟩ := own_fourN n
    obtain ⟨j, hj⟩ := own_three ((n : Int) + 1)
    refine ⟨k + j, ?_⟩
    have e : (((n + 1 : Nat) : Int)) = (n : Int) + 1 := by omega
    rw [e]
    grind
theorem own_four {U : Int} (hU : 0 ≤ U) : ∃ k, (U + 1) * (U + 2) * (U + 3) * (U + 4) = 24 * k := by
  obtain ⟨n, rfl⟩ := Int.eq_ofNat_of_zero_le hU
  exact own_fourN n
theorem own_C3 (U : Int) : own_C 3 U = (U + 1) * (U + 2) * (U + 3) / 6 := by
  show own_C 2 U * (U + ((2 : Nat) + 1)) / ((2 : Nat) + 1) = _
  obtain ⟨k, hk⟩ := own_two U
  rw [own_C2, hk, Int.mul_ediv_cancel_left _ (by decide)]
  show k * (U + 3) / 3 = 2 * k * (U + 3) / 6
  rw [Int.mul_assoc, show (6 : Int) = 2 * 3 from rfl, Int.mul_ediv_mul_of_pos _ _ (by decide)]
theorem own_C4 (U : Int) : own_C 4 U = (U + 1) * (U + 2) * (U + 3) * (U + 4) / 24 := by
  show own_C 3 U * (U + ((3 : Nat) + 1)) / ((3 : Nat) + 1) = _
  obtain ⟨k, hk⟩ := own_three U
  rw [own_C3, hk, Int.mul_ediv_cancel_left _ (by decide)]
  show k * (U + 4) / 4 = 6 * k * (U + 4) / 24
  rw [Int.mul_assoc, show (24 : Int) = 6 * 4 from rfl, Int.mul_ediv_mul_of_pos _ _ (by decide)]
theorem own_C5 {U : Int} (hU : 0 ≤ U) : own_C 5 U = (U + 1) * (U + 2) * (U + 3) * (U + 4) * (U + 5) / 120 := by
  show own_C 4 U * (U + ((4 : Nat) + 1)) / ((4 : Nat) + 1) = _
  obtain ⟨k, hk⟩ := own_four hU
  rw [own_C4, hk, Int.mul_ediv_cancel_left _ (by decide)]
  show k * (U + 5) / 5 = 24 * k * (U + 5) / 120
  rw [Int.mul_assoc, show (120 : Int) = 24 * 5 from rfl, Int.mul_ediv_mul_of_pos _ _ (by decide)]
/-- products of bounded numbers -/
theorem own_pm {a b A B : Int} (a0 : 0 ≤ a) (b0 : 0 ≤ b) (ha : a ≤ A) (hb : b ≤ B) : 0 ≤ a * b ∧ a * b ≤ A * B :=
  ⟨Int.mul_nonneg a0 b0, Int.mul_le_mul ha hb b0 (by omega)⟩
theorem own_big {a b A B : Int} (A0 : 0 ≤ A) (B0 : 0 ≤ B) (ha : A ≤ a) (hb : B ≤ b) : A * B ≤ a * b :=
  Int.mul_le_mul ha hb B0 (by omega)
theorem own_mulI {x y : Int64} {X Y B : Int} (hx : x.toInt = X) (hy : y.toInt = Y) (b : 0 ≤ X * Y ∧ X * Y ≤ B) (hB : B < 2 ^ 63) : (x * y).toInt = X * Y := by
  rw [Jvm.Kit.i64_mul (by rw [hx, hy]; omega) (by rw [hx, hy]; omega), hx, hy]
theorem own_addI {x : Int64} {k : Int64} {X K : Int} (hx : x.toInt = X) (hk : k.toInt = K) (X0 : 0 ≤ X) (X1 : X < 2 ^ 31) (K0 : 0 ≤ K) (K1 : K ≤ 5) : (x + k).toInt = X + K := by
  rw [Jvm.Kit.i64_add (by omega) (by omega), hx, hk]
theorem own_divI {x y : Int64} {X Y : Int} (hx : x.toInt = X) (hy : y.toInt = Y) (X0 : 0 ≤ X) (Y0 : 1 ≤ Y) : (x / y).toInt = X / Y := by
  rw [Jvm.Kit.i64_div (by omega), hx, hy, Int.tdiv_eq_ediv_of_nonneg X0]
theorem own_stage {i : Nat} {cnt most J : Int64} {un I : Int32} (hI : I.toInt = (i : Int) + 1) (hJ : J.toInt = (i : Int) + 1) (hi : i ≤ 4) (hU : 0 ≤ un.toInt ∧ un.toInt < 2 ^ 30) (hm : most.toInt ≤ 2 ^ 31) (q : cnt.toInt = own_C i un.toInt) (hc : cnt < most) :
    ((cnt * ((un + I).toInt64)) / J).toInt = own_C (i + 1) un.toInt := by
  rw [Int64.lt_iff_toInt_lt] at hc
  have p := own_Cpos hU.1 i
  have e1 : (un + I).toInt = un.toInt + ((i : Int) + 1) := by rw [Jvm.Kit.i32_add (by omega) (by omega), hI]
  have e2 : ((un + I).toInt64).toInt = un.toInt + ((i : Int) + 1) := by rw [Jvm.Kit.i64_of_i32, e1]
  have b := own_pm (a := own_C i un.toInt) (b := un.toInt + ((i : Int) + 1)) (A := 2 ^ 31) (B := 2 ^ 31) (by omega) (by omega) (by omega) (by omega)
  have e3 := own_mulI q e2 b (by decide)
  rw [own_divI e3 hJ b.1 (by omega)]
  rfl
theorem own_l1 {n : Nat} {U : Int} {cnt q : Int64} (h : cnt.toInt = own_C n U) (c : cnt < q) : some (Value.int (nar .boolean (1 : Int32))) = some (Value.int (own_few n U q.toInt)) := by
  rw [Int64.lt_iff_toInt_lt, h] at c
  unfold own_few; rw [if_pos c]; rfl
theorem own_l0 {i n : Nat} {U : Int} {cnt q : Int64} (hi : i ≤ n) (hU : 0 ≤ U) (h : cnt.toInt = own_C i U) (c : ¬ cnt < q) : some (Value.int (nar .boolean (0 : Int32))) = some (Value.int (own_few n U q.toInt)) := by
  rw [Int64.lt_iff_toInt_lt, h] at c
  have m := own_Cmono hU hi
  unfold own_few; rw [if_neg (by omega)]; rfl
theorem ef_rm_few (m : MethodId) (q1 : Int64) (p2 : Int32) (p3 : Int32) : entryFrame m #[(.long q1), (.int p2), (.int p3)] 7 = mkF m 0 #[.val (.long q1), .second, .val (.int p2), .val (.int p3), .unset, .unset, .unset] [] := by first | (simp [entryFrame, mkF, argsToLocals, Value.category]; done) | rfl
def K_rm_few (n : Nat) (Z : State) (h0 : Heap) (n0 : Nat) (q1 : Int64) (p2 : Int32) (p3 : Int32) (v : Option Value) (h : Heap) (L : List Loc) : Prop := v = some (.int (own_few n p2.toInt q1.toInt)) ∧ Fr n0 L ∧ h = h0
theorem d_prog_79_method_3_code_0 : decode prog_79_method_3_code 0 = .ok (.lconst 1, 1) := by decide +kernel
theorem d_prog_79_method_3_code_1 : decode prog_79_method_3_code 1 = .ok (.lstore 4, 2) := by decide +kernel
theorem d_prog_79_method_3_code_3 : decode prog_79_method_3_code 3 = .ok (.iconst 1, 1) := by decide +kernel
theorem d_prog_79_method_3_code_4 : decode prog_79_method_3_code 4 = .ok (.istore 6, 2) := by decide +kernel
theorem d_prog_79_method_3_code_6 : decode prog_79_method_3_code 6 = .ok (.iload 6, 2) := by decide +kernel
theorem d_prog_79_method_3_code_8 : decode prog_79_method_3_code 8 = .ok (.iload_n 3, 1) := by decide +kernel
theorem d_prog_79_method_3_code_9 : decode prog_79_method_3_code 9 = .ok (.if_icmp .ge 30, 3) := by decide +kernel
theorem d_prog_79_method_3_code_39 : decode prog_79_method_3_code 39 = .ok (.lload 4, 2) := by decide +kernel
theorem d_prog_79_method_3_code_41 : decode prog_79_method_3_code 41 = .ok (.lload_n 0, 1) := by decide +kernel
theorem d_prog_79_method_3_code_42 : decode prog_79_method_3_code 42 = .ok (.lcmp, 1) := by decide +kernel
theorem d_prog_79_method_3_code_43 : decode prog_79_method_3_code 43 = .ok (.ifCond .ge 7, 3) := by decide +kernel
theorem d_prog_79_method_3_code_46 : decode prog_79_method_3_code 46 = .ok (.iconst 1, 1) := by decide +kernel
theorem d_prog_79_method_3_code_47 : decode prog_79_method_3_code 47 = .ok (.goto 4, 3) := by decide +kernel
theorem d_prog_79_method_3_code_51 : decode prog_79_method_3_code 51 = .ok (.ireturn, 1) := by decide +kernel
theorem d_prog_79_method_3_code_50 : decode prog_79_method_3_code 50 = .ok (.iconst 0, 1) := by decide +kernel
theorem d_prog_79_method_3_code_12 : decode prog_79_method_3_code 12 = .ok (.lload 4, 2) := by decide +kernel
theorem d_prog_79_method_3_code_14 : decode prog_79_method_3_code 14 = .ok (.lload_n 0, 1) := by decide +kernel
theorem d_prog_79_method_3_code_15 : decode prog_79_method_3_code 15 = .ok (.lcmp, 1) := by decide +kernel
theorem d_prog_79_method_3_code_16 : decode prog_79_method_3_code 16 = .ok (.ifCond .ge 23, 3) := by decide +kernel
theorem d_prog_79_method_3_code_19 : decode prog_79_method_3_code 19 = .ok (.lload 4, 2) := by decide +kernel
theorem d_prog_79_method_3_code_21 : decode prog_79_method_3_code 21 = .ok (.iload_n 2, 1) := by decide +kernel
theorem d_prog_79_method_3_code_22 : decode prog_79_method_3_code 22 = .ok (.iload 6, 2) := by decide +kernel
theorem d_prog_79_method_3_code_24 : decode prog_79_method_3_code 24 = .ok (.iadd, 1) := by decide +kernel
theorem d_prog_79_method_3_code_25 : decode prog_79_method_3_code 25 = .ok (.i2l, 1) := by decide +kernel
theorem d_prog_79_method_3_code_26 : decode prog_79_method_3_code 26 = .ok (.lmul, 1) := by decide +kernel
theorem d_prog_79_method_3_code_27 : decode prog_79_method_3_code 27 = .ok (.iload 6, 2) := by decide +kernel
theorem d_prog_79_method_3_code_29 : decode prog_79_method_3_code 29 = .ok (.i2l, 1) := by decide +kernel
theorem d_prog_79_method_3_code_30 : decode prog_79_method_3_code 30 = .ok (.ldiv, 1) := by decide +kernel
theorem d_prog_79_method_3_code_31 : decode prog_79_method_3_code 31 = .ok (.lstore 4, 2) := by decide +kernel
theorem d_prog_79_method_3_code_33 : decode prog_79_method_3_code 33 = .ok (.iinc 6 1, 3) := by decide +kernel
theorem d_prog_79_method_3_code_36 : decode prog_79_method_3_code 36 = .ok (.goto (-30), 3) := by decide +kernel
theorem pn_com_example_tranchery_tranchery_solve_ShareSearch_Plan : plainName "com/example/tranchery/tranchery/solve/ShareSearch$Plan" = true := by first | (simp [plainName, overriddenIn]; done) | decide +kernel
set_option maxRecDepth 65536 in
set_option maxHeartbeats 40000000 in
theorem rm_few (l : Launch) (Z : State) (a0 : Array Value) (hw : ∀ d ∈ tables_1, d.before a0 Z = true) (ws : List Jvm.Cond) (n : Nat) (q1 : Int64) (p2 : Int32) (p3 : Int32) (h0 : Heap) (n0 : Nat) (Z0 : n0 ≤ h0.size) (hu : 0 ≤ p2.toInt ∧ p2.toInt < 2 ^ 30) (hm : q1.toInt ≤ 2 ^ 31) (hn : (n = 0 ∧ p3 = (1 : Int32)) ∨ (n = 1 ∧ p3 = (2 : Int32)) ∨ (n = 2 ∧ p3 = (3 : Int32)) ∨ (n = 3 ∧ p3 = (4 : Int32)) ∨ (n = 4 ∧ p3 = (5 : Int32)) ∨ (n = 5 ∧ p3 = (6 : Int32))) :
    MetFree l (⟨"com/example/tranchery/tranchery/solve/ShareSearch$Plan", "fewerThan", "(JII)Z"⟩ : MethodName) (head1 (Jvm.Cond.code (⟨"com/example/tranchery/tranchery/solve/ShareSearch$Plan", "fewerThan", "(JII)Z"⟩ : MethodName) prog_79_method_3_code 7 (some .boolean) :: ws) ({ frames := 0, cells := 0, slots := 0, locals := 0 } : Room)) (fun a U => a = #[(.long q1), (.int p2), (.int p3)] ∧ Z.Warmed39 U.vm ∧ U.heap = h0) (fun _ _ _ _ _ => True) (fun _ U o U' => ∃ v L, o = .returned v ∧ (K_rm_few n Z h0 n0 q1 p2 p3) v U'.heap L ∧ FrameEnd U o U' L ({ frames := 0, cells := 0, slots := 0, locals := 0 } : Room).cells ({ frames := 0, cells := 0, slots := 0, locals := 0 } : Room).slots) := by
  refine own_body (plainFor_of_name pn_com_example_tranchery_tranchery_solve_ShareSearch_Plan) ?_
  intro p e s m below meth c s₁ hx hby hml hown hnm hret hlk hZ X0 e0
  have hown : s.vm.findClass "com/example/tranchery/tranchery/solve/ShareSearch$Plan" = some m.cls := hown
  have N0 := Fr.nil n0
  rw [ef_rm_few m q1 p2 p3]
  rcases hn with ⟨rfl, rfl⟩ | ⟨rfl, rfl⟩ | ⟨rfl, rfl⟩ | ⟨rfl, rfl⟩ | ⟨rfl, rfl⟩ | ⟨rfl, rfl⟩
  · have z0 : (1 : Int64).toInt = own_C 0 p2.toInt := by simp only [own_C]; decide
    refine own_lconst X0 hx (v := (1 : Int64)) (pc' := 1) rfl (hb hby d_prog_79_method_3_code_0) rfl ?_
    refine own_lstore X0 hx (Ls' := #[.val (.long q1), .second, .val (.int p2), .val (.int (1 : Int32)), .val (.long (1 : Int64)), .second, .unset]) (pc' := 3) rfl (hb hby d_prog_79_method_3_code_1) rfl ?_
    refine own_iconst X0 hx (v := (1 : Int32)) (pc' := 4) rfl (hb hby d_prog_79_method_3_code_3) rfl ?_
    refine own_istore X0 hx (Ls' := #[.val (.long q1), .second, .val (.int p2), .val (.int (1 : Int32)), .val (.long (1 : Int64)), .second, .val (.int (1 : Int32))]) (pc' := 6) rfl (hb hby d_prog_79_method_3_code_4) rfl ?_
    refine own_iload X0 hx (pc' := 8) rfl (hb hby d_prog_79_method_3_code_6) rfl ?_
    refine own_iloadN X0 hx (pc' := 9) rfl (hb hby d_prog_79_method_3_code_8) rfl ?_
    refine own_icmpT X0 hx (pc' := 39) (hb hby d_prog_79_method_3_code_9) (XT.ii_ge_t (by decide)) (by decide) (by decide) ?_
    refine own_lload X0 hx (pc' := 41) rfl (hb hby d_prog_79_method_3_code_39) rfl ?_
    refine own_lloadN X0 hx (pc' := 42) rfl (hb hby d_prog_79_method_3_code_41) rfl ?_
    refine own_lcmp X0 hx (pc' := 43) rfl (hb hby d_prog_79_method_3_code_42) ?_
    by_cases c43_1 : (1 : Int64) < q1
    · refine own_ifF X0 hx (pc' := 46) rfl (hb hby d_prog_79_method_3_code_43) (XT.ll_ge_f c43_1) ?_
      refine own_iconst X0 hx (v := (1 : Int32)) (pc' := 47) rfl (hb hby d_prog_79_method_3_code_46) rfl ?_
      refine own_goto X0 hx (pc' := 51) (hb hby d_prog_79_method_3_code_47) (by decide) (by decide) ?_
      refine own_zret X0 hx hlk hret (by simp) (hb hby d_prog_79_method_3_code_51) (by decide) (by decide) ?_
      rw [e0]
      exact ⟨own_l1 z0 c43_1, N0, rfl⟩
    · refine own_ifT X0 hx (pc' := 50) (hb hby d_prog_79_method_3_code_43) (XT.ll_ge_t c43_1) (by decide) (by decide) ?_
      refine own_iconst X0 hx (v := (0 : Int32)) (pc' := 51) rfl (hb hby d_prog_79_method_3_code_50) rfl ?_
      refine own_zret X0 hx hlk hret (by simp) (hb hby d_prog_79_method_3_code_51) (by decide) (by decide) ?_
      rw [e0]
      exact ⟨own_l0 (i := 0) (by decide) hu.1 z0 c43_1, N0, rfl⟩
  · have z0 : (1 : Int64).toInt = own_C 0 p2.toInt := by simp only [own_C]; decide
    refine own_lconst X0 hx (v := (1 : Int64)) (pc' := 1) rfl (hb hby d_prog_79_method_3_code_0) rfl ?_
    refine own_lstore X0 hx (Ls' := #[.val (.long q1), .second, .val (.int p2), .val (.int (2 : Int32)), .val (.long (1 : Int64)), .second, .unset]) (pc' := 3) rfl (hb hby d_prog_79_method_3_code_1) rfl ?_
    refine own_iconst X0 hx (v := (1 : Int32)) (pc' := 4) rfl (hb hby d_prog_79_method_3_code_3) rfl ?_
    refine own_istore X0 hx (Ls' := #[.val (.long q1), .second, .val (.int p2), .val (.int (2 : Int32)), .val (.long (1 : Int64)), .second, .val (.int (1 : Int32))]) (pc' := 6) rfl (hb hby d_prog_79_method_3_code_4) rfl ?_
    refine own_iload X0 hx (pc' := 8) rfl (hb hby d_prog_79_method_3_code_6) rfl ?_
    refine own_iloadN X0 hx (pc' := 9) rfl (hb hby d_prog_79_method_3_code_8) rfl ?_
    refine own_icmpF X0 hx (pc' := 12) rfl (hb hby d_prog_79_method_3_code_9) (XT.ii_ge_f (by decide)) ?_
    refine own_lload X0 hx (pc' := 14) rfl (hb hby d_prog_79_method_3_code_12) rfl ?_
    refine own_lloadN X0 hx (pc' := 15) rfl (hb hby d_prog_79_method_3_code_14) rfl ?_
    refine own_lcmp X0 hx (pc' := 16) rfl (hb hby d_prog_79_method_3_code_15) ?_
    by_cases c16_2 : (1 : Int64) < q1
    · refine own_ifF X0 hx (pc' := 19) rfl (hb hby d_prog_79_method_3_code_16) (XT.ll_ge_f c16_2) ?_
      refine own_lload X0 hx (pc' := 21) rfl (hb hby d_prog_79_method_3_code_19) rfl ?_
      refine own_iloadN X0 hx (pc' := 22) rfl (hb hby d_prog_79_method_3_code_21) rfl ?_
      refine own_iload X0 hx (pc' := 24) rfl (hb hby d_prog_79_method_3_code_22) rfl ?_
      refine own_iadd X0 hx (v := (p2 + (1 : Int32))) (pc' := 25) rfl (hb hby d_prog_79_method_3_code_24) rfl ?_
      refine own_i2l X0 hx (v := (((p2 + (1 : Int32))).toInt64)) (pc' := 26) rfl (hb hby d_prog_79_method_3_code_25) rfl ?_
      refine own_lmul X0 hx (v := ((1 : Int64) * (((p2 + (1 : Int32))).toInt64))) (pc' := 27) rfl (hb hby d_prog_79_method_3_code_26) rfl ?_
      refine own_iload X0 hx (pc' := 29) rfl (hb hby d_prog_79_method_3_code_27) rfl ?_
      refine own_i2l X0 hx (v := (1 : Int64)) (pc' := 30) rfl (hb hby d_prog_79_method_3_code_29) (by decide) ?_
      refine own_ldiv X0 hx (v := (((1 : Int64) * (((p2 + (1 : Int32))).toInt64)) / (1 : Int64))) (pc' := 31) rfl (hb hby d_prog_79_method_3_code_30) (by decide) rfl ?_
      have z1 : (((1 : Int64) * (((p2 + (1 : Int32))).toInt64)) / (1 : Int64)).toInt = own_C 1 p2.toInt := own_stage (I := (1 : Int32)) (by decide) (by decide) (by decide) hu hm z0 c16_2
      generalize (((1 : Int64) * (((p2 + (1 : Int32))).toInt64)) / (1 : Int64)) = k1 at z1 ⊢
      refine own_lstore X0 hx (Ls' := #[.val (.long q1), .second, .val (.int p2), .val (.int (2 : Int32)), .val (.long k1), .second, .val (.int (1 : Int32))]) (pc' := 33) rfl (hb hby d_prog_79_method_3_code_31) rfl ?_
      refine own_iinc X0 hx (v := (2 : Int32)) (Ls' := #[.val (.long q1), .second, .val (.int p2), .val (.int (2 : Int32)), .val (.long k1), .second, .val (.int (2 : Int32))]) (pc' := 36) rfl (hb hby d_prog_79_method_3_code_33) rfl (by decide) rfl ?_
      refine own_goto X0 hx (pc' := 6) (hb hby d_prog_79_method_3_code_36) (by decide) (by decide) ?_
      refine own_iload X0 hx (pc' := 8) rfl (hb hby d_prog_79_method_3_code_6) rfl ?_
      refine own_iloadN X0 hx (pc' := 9) rfl (hb hby d_prog_79_method_3_code_8) rfl ?_
      refine own_icmpT X0 hx (pc' := 39) (hb hby d_prog_79_method_3_code_9) (XT.ii_ge_t (by decide)) (by decide) (by decide) ?_
      refine own_lload X0 hx (pc' := 41) rfl (hb hby d_prog_79_method_3_code_39) rfl ?_
      refine own_lloadN X0 hx (pc' := 42) rfl (hb hby d_prog_79_method_3_code_41) rfl ?_
      refine own_lcmp X0 hx (pc' := 43) rfl (hb hby d_prog_79_method_3_code_42) ?_
      by_cases c43_3 : k1 < q1
      · refine own_ifF X0 hx (pc' := 46) rfl (hb hby d_prog_79_method_3_code_43) (XT.ll_ge_f c43_3) ?_
        refine own_iconst X0 hx (v := (1 : Int32)) (pc' := 47) rfl (hb hby d_prog_79_method_3_code_46) rfl ?_
        refine own_goto X0 hx (pc' := 51) (hb hby d_prog_79_method_3_code_47) (by decide) (by decide) ?_
        refine own_zret X0 hx hlk hret (by simp) (hb hby d_prog_79_method_3_code_51) (by decide) (by decide) ?_
        rw [e0]
        exact ⟨own_l1 z1 c43_3, N0, rfl⟩
      · refine own_ifT X0 hx (pc' := 50) (hb hby d_prog_79_method_3_code_43) (XT.ll_ge_t c43_3) (by decide) (by decide) ?_
        refine own_iconst X0 hx (v := (0 : Int32)) (pc' := 51) rfl (hb hby d_prog_79_method_3_code_50) rfl ?_
        refine own_zret X0 hx hlk hret (by simp) (hb hby d_prog_79_method_3_code_51) (by decide) (by decide) ?_
        rw [e0]
        exact ⟨own_l0 (i := 1) (by decide) hu.1 z1 c43_3, N0, rfl⟩
    · refine own_ifT X0 hx (pc' := 39) (hb hby d_prog_79_method_3_code_16) (XT.ll_ge_t c16_2) (by decide) (by decide) ?_
      refine own_lload X0 hx (pc' := 41) rfl (hb hby d_prog_79_method_3_code_39) rfl ?_
      refine own_lloadN X0 hx (pc' := 42) rfl (hb hby d_prog_79_method_3_code_41) rfl ?_
      refine own_lcmp X0 hx (pc' := 43) rfl (hb hby d_prog_79_method_3_code_42) ?_
      refine own_ifT X0 hx (pc' := 50) (hb hby d_prog_79_method_3_code_43) (XT.ll_ge_t c16_2) (by decide) (by decide) ?_
      refine own_iconst X0 hx (v := (0 : Int32)) (pc' := 51) rfl (hb hby d_prog_79_method_3_code_50) rfl ?_
      refine own_zret X0 hx hlk hret (by simp) (hb hby d_prog_79_method_3_code_51) (by decide) (by decide) ?_
      rw [e0]
      exact ⟨own_l0 (i := 0) (by decide) hu.1 z0 c16_2, N0, rfl⟩
  · have z0 : (1 : Int64).toInt = own_C 0 p2.toInt := by simp only [own_C]; decide
    refine own_lconst X0 hx (v := (1 : Int64)) (pc' := 1) rfl (hb hby d_prog_79_method_3_code_0) rfl ?_
    refine own_lstore X0 hx (Ls' := #[.val (.long q1), .second, .val (.int p2), .val (.int (3 : Int32)), .val (.long (1 : Int64)), .second, .unset]) (pc' := 3) rfl (hb hby d_prog_79_method_3_code_1) rfl ?_
    refine own_iconst X0 hx (v := (1 : Int32)) (pc' := 4) rfl (hb hby d_prog_79_method_3_code_3) rfl ?_
    refine own_istore X0 hx (Ls' := #[.val (.long q1), .second, .val (.int p2), .val (.int (3 : Int32)), .val (.long (1 : Int64)), .second, .val (.int (1 : Int32))]) (pc' := 6) rfl (hb hby d_prog_79_method_3_code_4) rfl ?_
    refine own_iload X0 hx (pc' := 8) rfl (hb hby d_prog_79_method_3_code_6) rfl ?_
    refine own_iloadN X0 hx (pc' := 9) rfl (hb hby d_prog_79_method_3_code_8) rfl ?_
    refine own_icmpF X0 hx (pc' := 12) rfl (hb hby d_prog_79_method_3_code_9) (XT.ii_ge_f (by decide)) ?_
    refine own_lload X0 hx (pc' := 14) rfl (hb hby d_prog_79_method_3_code_12) rfl ?_
    refine own_lloadN X0 hx (pc' := 15) rfl (hb hby d_prog_79_method_3_code_14) rfl ?_
    refine own_lcmp X0 hx (pc' := 16) rfl (hb hby d_prog_79_method_3_code_15) ?_
    by_cases c16_4 : (1 : Int64) < q1
    · refine own_ifF X0 hx (pc' := 19) rfl (hb hby d_prog_79_method_3_code_16) (XT.ll_ge_f c16_4) ?_
      refine own_lload X0 hx (pc' := 21) rfl (hb hby d_prog_79_method_3_code_19) rfl ?_
      refine own_iloadN X0 hx (pc' := 22) rfl (hb hby d_prog_79_method_3_code_21) rfl ?_
      refine own_iload X0 hx (pc' := 24) rfl (hb hby d_prog_79_method_3_code_22) rfl ?_
      refine own_iadd X0 hx (v := (p2 + (1 : Int32))) (pc' := 25) rfl (hb hby d_prog_79_method_3_code_24) rfl ?_
      refine own_i2l X0 hx (v := (((p2 + (1 : Int32))).toInt64)) (pc' := 26) rfl (hb hby d_prog_79_method_3_code_25) rfl ?_
      refine own_lmul X0 hx (v := ((1 : Int64) * (((p2 + (1 : Int32))).toInt64))) (pc' := 27) rfl (hb hby d_prog_79_method_3_code_26) rfl ?_
      refine own_iload X0 hx (pc' := 29) rfl (hb hby d_prog_79_method_3_code_27) rfl ?_
      refine own_i2l X0 hx (v := (1 : Int64)) (pc' := 30) rfl (hb hby d_prog_79_method_3_code_29) (by decide) ?_
      refine own_ldiv X0 hx (v := (((1 : Int64) * (((p2 + (1 : Int32))).toInt64)) / (1 : Int64))) (pc' := 31) rfl (hb hby d_prog_79_method_3_code_30) (by decide) rfl ?_
      have z1 : (((1 : Int64) * (((p2 + (1 : Int32))).toInt64)) / (1 : Int64)).toInt = own_C 1 p2.toInt := own_stage (I := (1 : Int32)) (by decide) (by decide) (by decide) hu hm z0 c16_4
      generalize (((1 : Int64) * (((p2 + (1 : Int32))).toInt64)) / (1 : Int64)) = k1 at z1 ⊢
      refine own_lstore X0 hx (Ls' := #[.val (.long q1), .second, .val (.int p2), .val (.int (3 : Int32)), .val (.long k1), .second, .val (.int (1 : Int32))]) (pc' := 33) rfl (hb hby d_prog_79_method_3_code_31) rfl ?_
      refine own_iinc X0 hx (v := (2 : Int32)) (Ls' := #[.val (.long q1), .second, .val (.int p2), .val (.int (3 : Int32)), .val (.long k1), .second, .val (.int (2 : Int32))]) (pc' := 36) rfl (hb hby d_prog_79_method_3_code_33) rfl (by decide) rfl ?_
      refine own_goto X0 hx (pc' := 6) (hb hby d_prog_79_method_3_code_36) (by decide) (by decide) ?_
      refine own_iload X0 hx (pc' := 8) rfl (hb hby d_prog_79_method_3_code_6) rfl ?_
      refine own_iloadN X0 hx (pc' := 9) rfl (hb hby d_prog_79_method_3_code_8) rfl ?_
      refine own_icmpF X0 hx (pc' := 12) rfl (hb hby d_prog_79_method_3_code_9) (XT.ii_ge_f (by decide)) ?_
      refine own_lload X0 hx (pc' := 14) rfl (hb hby d_prog_79_method_3_code_12) rfl ?_
      refine own_lloadN X0 hx (pc' := 15) rfl (hb hby d_prog_79_method_3_code_14) rfl ?_
      refine own_lcmp X0 hx (pc' := 16) rfl (hb hby d_prog_79_method_3_code_15) ?_
      by_cases c16_5 : k1 < q1
      · refine own_ifF X0 hx (pc' := 19) rfl (hb hby d_prog_79_method_3_code_16) (XT.ll_ge_f c16_5) ?_
        refine own_lload X0 hx (pc' := 21) rfl (hb hby d_prog_79_method_3_code_19) rfl ?_
        refine own_iloadN X0 hx (pc' := 22) rfl (hb hby d_prog_79_method_3_code_21) rfl ?_
        refine own_iload X0 hx (pc' := 24) rfl (hb hby d_prog_79_method_3_code_22) rfl ?_
        refine own_iadd X0 hx (v := (p2 + (2 : Int32))) (pc' := 25) rfl (hb hby d_prog_79_method_3_code_24) rfl ?_
        refine own_i2l X0 hx (v := (((p2 + (2 : Int32))).toInt64)) (pc' := 26) rfl (hb hby d_prog_79_method_3_code_25) rfl ?_
        refine own_lmul X0 hx (v := (k1 * (((p2 + (2 : Int32))).toInt64))) (pc' := 27) rfl (hb hby d_prog_79_method_3_code_26) rfl ?_
        refine own_iload X0 hx (pc' := 29) rfl (hb hby d_prog_79_method_3_code_27) rfl ?_
        refine own_i2l X0 hx (v := (2 : Int64)) (pc' := 30) rfl (hb hby d_prog_79_method_3_code_29) (by decide) ?_
        refine own_ldiv X0 hx (v := ((k1 * (((p2 + (2 : Int32))).toInt64)) / (2 : Int64))) (pc' := 31) rfl (hb hby d_prog_79_method_3_code_30) (by decide) rfl ?_
        have z2 : ((k1 * (((p2 + (2 : Int32))).toInt64)) / (2 : Int64)).toInt = own_C 2 p2.toInt := own_stage (I := (2 : Int32)) (by decide) (by decide) (by decide) hu hm z1 c16_5
        generalize ((k1 * (((p2 + (2 : Int32))).toInt64)) / (2 : Int64)) = k2 at z2 ⊢
        refine own_lstore X0 hx (Ls' := #[.val (.long q1), .second, .val (.int p2), .val (.int (3 : Int32)), .val (.long k2), .second, .val (.int (2 : Int32))]) (pc' := 33) rfl (hb hby d_prog_79_method_3_code_31) rfl ?_
        refine own_iinc X0 hx (v := (3 : Int32)) (Ls' := #[.val (.long q1), .second, .val (.int p2), .val (.int (3 : Int32)), .val (.long k2), .second, .val (.int (3 : Int32))]) (pc' := 36) rfl (hb hby d_prog_79_method_3_code_33) rfl (by decide) rfl ?_
        refine own_goto X0 hx (pc' := 6) (hb hby d_prog_79_method_3_code_36) (by decide) (by decide) ?_
        refine own_iload X0 hx (pc' := 8) rfl (hb hby d_prog_79_method_3_code_6) rfl ?_
        refine own_iloadN X0 hx (pc' := 9) rfl (hb hby d_prog_79_method_3_code_8) rfl ?_
        refine own_icmpT X0 hx (pc' := 39) (hb hby d_prog_79_method_3_code_9) (XT.ii_ge_t (by decide)) (by decide) (by decide) ?_
        refine own_lload X0 hx (pc' := 41) rfl (hb hby d_prog_79_method_3_code_39) rfl ?_
        refine own_lloadN X0 hx (pc' := 42) rfl (hb hby d_prog_79_method_3_code_41) rfl ?_
        refine own_lcmp X0 hx (pc' := 43) rfl (hb hby d_prog_79_method_3_code_42) ?_
        by_cases c43_6 : k2 < q1
        · refine own_ifF X0 hx (pc' := 46) rfl (hb hby d_prog_79_method_3_code_43) (XT.ll_ge_f c43_6) ?_
          refine own_iconst X0 hx (v := (1 : Int32)) (pc' := 47) rfl (hb hby d_prog_79_method_3_code_46) rfl ?_
          refine own_goto X0 hx (pc' := 51) (hb hby d_prog_79_method_3_code_47) (by decide) (by decide) ?_
          refine own_zret X0 hx hlk hret (by simp) (hb hby d_prog_79_method_3_code_51) (by decide) (by decide) ?_
          rw [e0]
          exact ⟨own_l1 z2 c43_6, N0, rfl⟩
        · refine own_ifT X0 hx (pc' := 50) (hb hby d_prog_79_method_3_code_43) (XT.ll_ge_t c43_6) (by decide) (by decide) ?_
          refine own_iconst X0 hx (v := (0 : Int32)) (pc' := 51) rfl (hb hby d_prog_79_method_3_code_50) rfl ?_
          refine own_zret X0 hx hlk hret (by simp) (hb hby d_prog_79_method_3_code_51) (by decide) (by decide) ?_
          rw [e0]
          exact ⟨own_l0 (i := 2) (by decide) hu.1 z2 c43_6, N0, rfl⟩
      · refine own_ifT X0 hx (pc' := 39) (hb hby d_prog_79_method_3_code_16) (XT.ll_ge_t c16_5) (by decide) (by decide) ?_
        refine own_lload X0 hx (pc' := 41) rfl (hb hby d_prog_79_method_3_code_39) rfl ?_
        refine own_lloadN X0 hx (pc' := 42) rfl (hb hby d_prog_79_method_3_code_41) rfl ?_
        refine own_lcmp X0 hx (pc' := 43) rfl (hb hby d_prog_79_method_3_code_42) ?_
        refine own_ifT X0 hx (pc' := 50) (hb hby d_prog_79_method_3_code_43) (XT.ll_ge_t c16_5) (by decide) (by decide) ?_
        refine own_iconst X0 hx (v := (0 : Int32)) (pc' := 51) rfl (hb hby d_prog_79_method_3_code_50) rfl ?_
        refine own_zret X0 hx hlk hret (by simp) (hb hby d_prog_79_method_3_code_51) (by decide) (by decide) ?_
        rw [e0]
        exact ⟨own_l0 (i := 1) (by decide) hu.1 z1 c16_5, N0, rfl⟩
    · refine own_ifT X0 hx (pc' := 39) (hb hby d_prog_79_method_3_code_16) (XT.ll_ge_t c16_4) (by decide) (by decide) ?_
      refine own_lload X0 hx (pc' := 41) rfl (hb hby d_prog_79_method_3_code_39) rfl ?_
      refine own_lloadN X0 hx (pc' := 42) rfl (hb hby d_prog_79_method_3_code_41) rfl ?_
      refine own_lcmp X0 hx (pc' := 43) rfl (hb hby d_prog_79_method_3_code_42) ?_
      refine own_ifT X0 hx (pc' := 50) (hb hby d_prog_79_method_3_code_43) (XT.ll_ge_t c16_4) (by decide) (by decide) ?_
      refine own_iconst X0 hx (v := (0 : Int32)) (pc' := 51) rfl (hb hby d_prog_79_method_3_code_50) rfl ?_
      refine own_zret X0 hx hlk hret (by simp) (hb hby d_prog_79_method_3_code_51) (by decide) (by decide) ?_
      rw [e0]
      exact ⟨own_l0 (i := 0) (by decide) hu.1 z0 c16_4, N0, rfl⟩
  · have z0 : (1 : Int64).toInt = own_C 0 p2.toInt := by simp only [own_C]; decide
    refine own_lconst X0 hx (v := (1 : Int64)) (pc' := 1) rfl (hb hby d_prog_79_method_3_code_0) rfl ?_
    refine own_lstore X0 hx (Ls' := #[.val (.long q1), .second, .val (.int p2), .val (.int (4 : Int32)), .val (.long (1 : Int64)), .second, .unset]) (pc' := 3) rfl (hb hby d_prog_79_method_3_code_1) rfl ?_
    refine own_iconst X0 hx (v := (1 : Int32)) (pc' := 4) rfl (hb hby d_prog_79_method_3_code_3) rfl ?_
    refine own_istore X0 hx (Ls' := #[.val (.long q1), .second, .val (.int p2), .val (.int (4 : Int32)), .val (.long (1 : Int64)), .second, .val (.int (1 : Int32))]) (pc' := 6) rfl (hb hby d_prog_79_method_3_code_4) rfl ?_
    refine own_iload X0 hx (pc' := 8) rfl (hb hby d_prog_79_method_3_code_6) rfl ?_
    refine own_iloadN X0 hx (pc' := 9) rfl (hb hby d_prog_79_method_3_code_8) rfl ?_
    refine own_icmpF X0 hx (pc' := 12) rfl (hb hby d_prog_79_method_3_code_9) (XT.ii_ge_f (by decide)) ?_
    refine own_lload X0 hx (pc' := 14) rfl (hb hby d_prog_79_method_3_code_12) rfl ?_
    refine own_lloadN X0 hx (pc' := 15) rfl (hb hby d_prog_79_method_3_code_14) rfl ?_
    refine own_lcmp X0 hx (pc' := 16) rfl (hb hby d_prog_79_method_3_code_15) ?_
    by_cases c16_7 : (1 : Int64) < q1
    · refine own_ifF X0 hx (pc' := 19) rfl (hb hby d_prog_79_method_3_code_16) (XT.ll_ge_f c16_7) ?_
      refine own_lload X0 hx (pc' := 21) rfl (hb hby d_prog_79_method_3_code_19) rfl ?_
      refine own_iloadN X0 hx (pc' := 22) rfl (hb hby d_prog_79_method_3_code_21) rfl ?_
      refine own_iload X0 hx (pc' := 24) rfl (hb hby d_prog_79_method_3_code_22) rfl ?_
      refine own_iadd X0 hx (v := (p2 + (1 : Int32))) (pc' := 25) rfl (hb hby d_prog_79_method_3_code_24) rfl ?_
      refine own_i2l X0 hx (v := (((p2 + (1 : Int32))).toInt64)) (pc' := 26) rfl (hb hby d_prog_79_method_3_code_25) rfl ?_
      refine own_lmul X0 hx (v := ((1 : Int64) * (((p2 + (1 : Int32))).toInt64))) (pc' := 27) rfl (hb hby d_prog_79_method_3_code_26) rfl ?_
      refine own_iload X0 hx (pc' := 29) rfl (hb hby d_prog_79_method_3_code_27) rfl ?_
      refine own_i2l X0 hx (v := (1 : Int64)) (pc' := 30) rfl (hb hby d_prog_79_method_3_code_29) (by decide) ?_
      refine own_ldiv X0 hx (v := (((1 : Int64) * (((p2 + (1 : Int32))).toInt64)) / (1 : Int64))) (pc' := 31) rfl (hb hby d_prog_79_method_3_code_30) (by decide) rfl ?_
      have z1 : (((1 : Int64) * (((p2 + (1 : Int32))).toInt64)) / (1 : Int64)).toInt = own_C 1 p2.toInt := own_stage (I := (1 : Int32)) (by decide) (by decide) (by decide) hu hm z0 c16_7
      generalize (((1 : Int64) * (((p2 + (1 : Int32))).toInt64)) / (1 : Int64)) = k1 at z1 ⊢
      refine own_lstore X0 hx (Ls' := #[.val (.long q1), .second, .val (.int p2), .val (.int (4 : Int32)), .val (.long k1), .second, .val (.int (1 : Int32))]) (pc' := 33) rfl (hb hby d_prog_79_method_3_code_31) rfl ?_
      refine own_iinc X0 hx (v := (2 : Int32)) (Ls' := #[.val (.long q1), .second, .val (.int p2), .val (.int (4 : Int32)), .val (.long k1), .second, .val (.int (2 : Int32))]) (pc' := 36) rfl (hb hby d_prog_79_method_3_code_33) rfl (by decide) rfl ?_
      refine own_goto X0 hx (pc' := 6) (hb hby d_prog_79_method_3_code_36) (by decide) (by decide) ?_
      refine own_iload X0 hx (pc' := 8) rfl (hb hby d_prog_79_method_3_code_6) rfl ?_
      refine own_iloadN X0 hx (pc' := 9) rfl (hb hby d_prog_79_method_3_code_8) rfl ?_
      refine own_icmpF X0 hx (pc' := 12) rfl (hb hby d_prog_79_method_3_code_9) (XT.ii_ge_f (by decide)) ?_
      refine own_lload X0 hx (pc' := 14) rfl (hb hby d_prog_79_method_3_code_12) rfl ?_
      refine own_lloadN X0 hx (pc' := 15) rfl (hb hby d_prog_79_method_3_code_14) rfl ?_
      refine own_lcmp X0 hx (pc' := 16) rfl (hb hby d_prog_79_method_3_code_15) ?_
      by_cases c16_8 : k1 < q1
      · refine own_ifF X0 hx (pc' := 19) rfl (hb hby d_prog_79_method_3_code_16) (XT.ll_ge_f c16_8) ?_
        refine own_lload X0 hx (pc' := 21) rfl (hb hby d_prog_79_method_3_code_19) rfl ?_
        refine own_iloadN X0 hx (pc' := 22) rfl (hb hby d_prog_79_method_3_code_21) rfl ?_
        refine own_iload X0 hx (pc' := 24) rfl (hb hby d_prog_79_method_3_code_22) rfl ?_
        refine own_iadd X0 hx (v := (p2 + (2 : Int32))) (pc' := 25) rfl (hb hby d_prog_79_method_3_code_24) rfl ?_
        refine own_i2l X0 hx (v := (((p2 + (2 : Int32))).toInt64)) (pc' := 26) rfl (hb hby d_prog_79_method_3_code_25) rfl ?_
        refine own_lmul X0 hx (v := (k1 * (((p2 + (2 : Int32))).toInt64))) (pc' := 27) rfl (hb hby d_prog_79_method_3_code_26) rfl ?_
        refine own_iload X0 hx (pc' := 29) rfl (hb hby d_prog_79_method_3_code_27) rfl ?_
        refine own_i2l X0 hx (v := (2 : Int64)) (pc' := 30) rfl (hb hby d_prog_79_method_3_code_29) (by decide) ?_
        refine own_ldiv X0 hx (v := ((k1 * (((p2 + (2 : Int32))).toInt64)) / (2 : Int64))) (pc' := 31) rfl (hb hby d_prog_79_method_3_code_30) (by decide) rfl ?_
        have z2 : ((k1 * (((p2 + (2 : Int32))).toInt64)) / (2 : Int64)).toInt = own_C 2 p2.toInt := own_stage (I := (2 : Int32)) (by decide) (by decide) (by decide) hu hm z1 c16_8
        generalize ((k1 * (((p2 + (2 : Int32))).toInt64)) / (2 : Int64)) = k2 at z2 ⊢
        refine own_lstore X0 hx (Ls' := #[.val (.long q1), .second, .val (.int p2), .val (.int (4 : Int32)), .val (.long k2), .second, .val (.int (2 : Int32))]) (pc' := 33) rfl (hb hby d_prog_79_method_3_code_31) rfl ?_
        refine own_iinc X0 hx (v := (3 : Int32)) (Ls' := #[.val (.long q1), .second, .val (.int p2), .val (.int (4 : Int32)), .val (.long k2), .second, .val (.int (3 : Int32))]) (pc' := 36) rfl (hb hby d_prog_79_method_3_code_33) rfl (by decide) rfl ?_
        refine own_goto X0 hx (pc' := 6) (hb hby d_prog_79_method_3_code_36) (by decide) (by decide) ?_
        refine own_iload X0 hx (pc' := 8) rfl (hb hby d_prog_79_method_3_code_6) rfl ?_
        refine own_iloadN X0 hx (pc' := 9) rfl (hb hby d_prog_79_method_3_code_8) rfl ?_
        refine own_icmpF X0 hx (pc' := 12) rfl (hb hby d_prog_79_method_3_code_9) (XT.ii_ge_f (by decide)) ?_
        refine own_lload X0 hx (pc' := 14) rfl (hb hby d_prog_79_method_3_code_12) rfl ?_
        refine own_lloadN X0 hx (pc' := 15) rfl (hb hby d_prog_79_method_3_code_14) rfl ?_
        refine own_lcmp X0 hx (pc' := 16) rfl (hb hby d_prog_79_method_3_code_15) ?_
        by_cases c16_9 : k2 < q1
        · refine own_ifF X0 hx (pc' := 19) rfl (hb hby d_prog_79_method_3_code_16) (XT.ll_ge_f c16_9) ?_
          refine own_lload X0 hx (pc' := 21) rfl (hb hby d_prog_79_method_3_code_19) rfl ?_
          refine own_iloadN X0 hx (pc' := 22) rfl (hb hby d_prog_79_method_3_code_21) rfl ?_
          refine own_iload X0 hx (pc' := 24) rfl (hb hby d_prog_79_method_3_code_22) rfl ?_
          refine own_iadd X0 hx (v := (p2 + (3 : Int32))) (pc' := 25) rfl (hb hby d_prog_79_method_3_code_24) rfl ?_
          refine own_i2l X0 hx (v := (((p2 + (3 : Int32))).toInt64)) (pc' := 26) rfl (hb hby d_prog_79_method_3_code_25) rfl ?_
          refine own_lmul X0 hx (v := (k2 * (((p2 + (3 : Int32))).toInt64))) (pc' := 27) rfl (hb hby d_prog_79_method_3_code_26) rfl ?_
          refine own_iload X0 hx (pc' := 29) rfl (hb hby d_prog_79_method_3_code_27) rfl ?_
          refine own_i2l X0 hx (v := (3 : Int64)) (pc' := 30) rfl (hb hby d_prog_79_method_3_code_29) (by decide) ?_
          refine own_ldiv X0 hx (v := ((k2 * (((p2 + (3 : Int32))).toInt64)) / (3 : Int64))) (pc' := 31) rfl (hb hby d_prog_79_method_3_code_30) (by decide) rfl ?_
          have z3 : ((k2 * (((p2 + (3 : Int32))).toInt64)) / (3 : Int64)).toInt = own_C 3 p2.toInt := own_stage (I := (3 : Int32)) (by decide) (by decide) (by decide) hu hm z2 c16_9
          generalize ((k2 * (((p2 + (3 : Int32))).toInt64)) / (3 : Int64)) = k3 at z3 ⊢
          refine own_lstore X0 hx (Ls' := #[.val (.long q1), .second, .val (.int p2), .val (.int (4 : Int32)), .val (.long k3), .second, .val (.int (3 : Int32))]) (pc' := 33) rfl (hb hby d_prog_79_method_3_code_31) rfl ?_
          refine own_iinc X0 hx (v := (4 : Int32)) (Ls' := #[.val (.long q1), .second, .val (.int p2), .val (.int (4 : Int32)), .val (.long k3), .second, .val (.int (4 : Int32))]) (pc' := 36) rfl (hb hby d_prog_79_method_3_code_33) rfl (by decide) rfl ?_
          refine own_goto X0 hx (pc' := 6) (hb hby d_prog_79_method_3_code_36) (by decide) (by decide) ?_
          refine own_iload X0 hx (pc' := 8) rfl (hb hby d_prog_79_method_3_code_6) rfl ?_
          refine own_iloadN X0 hx (pc' := 9) rfl (hb hby d_prog_79_method_3_code_8) rfl ?_
          refine own_icmpT X0 hx (pc' := 39) (hb hby d_prog_79_method_3_code_9) (XT.ii_ge_t (by decide)) (by decide) (by decide) ?_
          refine own_lload X0 hx (pc' := 41) rfl (hb hby d_prog_79_method_3_code_39) rfl ?_
          refine own_lloadN X0 hx (pc' := 42) rfl (hb hby d_prog_79_method_3_code_41) rfl ?_
          refine own_lcmp X0 hx (pc' := 43) rfl (hb hby d_prog_79_method_3_code_42) ?_
          by_cases c43_10 : k3 < q1
          · refine own_ifF X0 hx (pc' := 46) rfl (hb hby d_prog_79_method_3_code_43) (XT.ll_ge_f c43_10) ?_
            refine own_iconst X0 hx (v := (1 : Int32)) (pc' := 47) rfl (hb hby d_prog_79_method_3_code_46) rfl ?_
            refine own_goto X0 hx (pc' := 51) (hb hby d_prog_79_method_3_code_47) (by decide) (by decide) ?_
            refine own_zret X0 hx hlk hret (by simp) (hb hby d_prog_79_method_3_code_51) (by decide) (by decide) ?_
            rw [e0]
            exact ⟨own_l1 z3 c43_10, N0, rfl⟩
          · refine own_ifT X0 hx (pc' := 50) (hb hby d_prog_79_method_3_code_43) (XT.ll_ge_t c43_10) (by decide) (by decide) ?_
            refine own_iconst X0 hx (v := (0 : Int32)) (pc' := 51) rfl (hb hby d_prog_79_method_3_code_50) rfl ?_
            refine own_zret X0 hx hlk hret (by simp) (hb hby d_prog_79_method_3_code_51) (by decide) (by decide) ?_
            rw [e0]
            exact ⟨own_l0 (i := 3) (by decide) hu.1 z3 c43_10, N0, rfl⟩
        · refine own_ifT X0 hx (pc' := 39) (hb hby d_prog_79_method_3_code_16) (XT.ll_ge_t c16_9) (by decide) (by decide) ?_
          refine own_lload X0 hx (pc' := 41) rfl (hb hby d_prog_79_method_3_code_39) rfl ?_
          refine own_lloadN X0 hx (pc' := 42) rfl (hb hby d_prog_79_method_3_code_41) rfl ?_
          refine own_lcmp X0 hx (pc' := 43) rfl (hb hby d_prog_79_method_3_code_42) ?_
          refine own_ifT X0 hx (pc' := 50) (hb hby d_prog_79_method_3_code_43) (XT.ll_ge_t c16_9) (by decide) (by decide) ?_
          refine own_iconst X0 hx (v := (0 : Int32)) (pc' := 51) rfl (hb hby d_prog_79_method_3_code_50) rfl ?_
          refine own_zret X0 hx hlk hret (by simp) (hb hby d_prog_79_method_3_code_51) (by decide) (by decide) ?_
          rw [e0]
          exact ⟨own_l0 (i := 2) (by decide) hu.1 z2 c16_9, N0, rfl⟩
      · refine own_ifT X0 hx (pc' := 39) (hb hby d_prog_79_method_3_code_16) (XT.ll_ge_t c16_8) (by decide) (by decide) ?_
        refine own_lload X0 hx (pc' := 41) rfl (hb hby d_prog_79_method_3_code_39) rfl ?_
        refine own_lloadN X0 hx (pc' := 42) rfl (hb hby d_prog_79_method_3_code_41) rfl ?_
        refine own_lcmp X0 hx (pc' := 43) rfl (hb hby d_prog_79_method_3_code_42) ?_
        refine own_ifT X0 hx (pc' := 50) (hb hby d_prog_79_method_3_code_43) (XT.ll_ge_t c16_8) (by decide) (by decide) ?_
        refine own_iconst X0 hx (v := (0 : Int32)) (pc' := 51) rfl (hb hby d_prog_79_method_3_code_50) rfl ?_
        refine own_zret X0 hx hlk hret (by simp) (hb hby d_prog_79_method_3_code_51) (by decide) (by decide) ?_
        rw [e0]
        exact ⟨own_l0 (i := 1) (by decide) hu.1 z1 c16_8, N0, rfl⟩
    · refine own_ifT X0 hx (pc' := 39) (hb hby d_prog_79_method_3_code_16) (XT.ll_ge_t c16_7) (by decide) (by decide) ?_
      refine own_lload X0 hx (pc' := 41) rfl (hb hby d_prog_79_method_3_code_39) rfl ?_
      refine own_lloadN X0 hx (pc' := 42) rfl (hb hby d_prog_79_method_3_code_41) rfl ?_
      refine own_lcmp X0 hx (pc' := 43) rfl (hb hby d_prog_79_method_3_code_42) ?_
      refine own_ifT X0 hx (pc' := 50) (hb hby d_prog_79_method_3_code_43) (XT.ll_ge_t c16_7) (by decide) (by decide) ?_
      refine own_iconst X0 hx (v := (0 : Int32)) (pc' := 51) rfl (hb hby d_prog_79_method_3_code_50) rfl ?_
      refine own_zret X0 hx hlk hret (by simp) (hb hby d_prog_79_method_3_code_51) (by decide) (by decide) ?_
      rw [e0]
      exact ⟨own_l0 (i := 0) (by decide) hu.1 z0 c16_7, N0, rfl⟩
  · have z0 : (1 : Int64).toInt = own_C 0 p2.toInt := by simp only [own_C]; decide
    refine own_lconst X0 hx (v := (1 : Int64)) (pc' := 1) rfl (hb hby d_prog_79_method_3_code_0) rfl ?_
    refine own_lstore X0 hx (Ls' := #[.val (.long q1), .second, .val (.int p2), .val (.int (5 : Int32)), .val (.long (1 : Int64)), .second, .unset]) (pc' := 3) rfl (hb hby d_prog_79_method_3_code_1) rfl ?_
    refine own_iconst X0 hx (v := (1 : Int32)) (pc' := 4) rfl (hb hby d_prog_79_method_3_code_3) rfl ?_
    refine own_istore X0 hx (Ls' := #[.val (.long q1), .second, .val (.int p2), .val (.int (5 : Int32)), .val (.long (1 : Int64)), .second, .val (.int (1 : Int32))]) (pc' := 6) rfl (hb hby d_prog_79_method_3_code_4) rfl ?_
    refine own_iload X0 hx (pc' := 8) rfl (hb hby d_prog_79_method_3_code_6) rfl ?_
    refine own_iloadN X0 hx (pc' := 9) rfl (hb hby d_prog_79_method_3_code_8) rfl ?_
    refine own_icmpF X0 hx (pc' := 12) rfl (hb hby d_prog_79_method_3_code_9) (XT.ii_ge_f (by decide)) ?_
    refine own_lload X0 hx (pc' := 14) rfl (hb hby d_prog_79_method_3_code_12) rfl ?_
    refine own_lloadN X0 hx (pc' := 15) rfl (hb hby d_prog_79_method_3_code_14) rfl ?_
    refine own_lcmp X0 hx (pc' := 16) rfl (hb hby d_prog_79_method_3_code_15) ?_
    by_cases c16_11 : (1 : Int64) < q1
    · refine own_ifF X0 hx (pc' := 19) rfl (hb hby d_prog_79_method_3_code_16) (XT.ll_ge_f c16_11) ?_
      refine own_lload X0 hx (pc' := 21) rfl (hb hby d_prog_79_method_3_code_19) rfl ?_
      refine own_iloadN X0 hx (pc' := 22) rfl (hb hby d_prog_79_method_3_code_21) rfl ?_
      refine own_iload X0 hx (pc' := 24) rfl (hb hby d_prog_79_method_3_code_22) rfl ?_
      refine own_iadd X0 hx (v := (p2 + (1 : Int32))) (pc' := 25) rfl (hb hby d_prog_79_method_3_code_24) rfl ?_
      refine own_i2l X0 hx (v := (((p2 + (1 : Int32))).toInt64)) (pc' := 26) rfl (hb hby d_prog_79_method_3_code_25) rfl ?_
      refine own_lmul X0 hx (v := ((1 : Int64) * (((p2 + (1 : Int32))).toInt64))) (pc' := 27) rfl (hb hby d_prog_79_method_3_code_26) rfl ?_
      refine own_iload X0 hx (pc' := 29) rfl (hb hby d_prog_79_method_3_code_27) rfl ?_
      refine own_i2l X0 hx (v := (1 : Int64)) (pc' := 30) rfl (hb hby d_prog_79_method_3_code_29) (by decide) ?_
      refine own_ldiv X0 hx (v := (((1 : Int64) * (((p2 + (1 : Int32))).toInt64)) / (1 : Int64))) (pc' := 31) rfl (hb hby d_prog_79_method_3_code_30) (by decide) rfl ?_
      have z1 : (((1 : Int64) * (((p2 + (1 : Int32))).toInt64)) / (1 : Int64)).toInt = own_C 1 p2.toInt := own_stage (I := (1 : Int32)) (by decide) (by decide) (by decide) hu hm z0 c16_11
      generalize (((1 : Int64) * (((p2 + (1 : Int32))).toInt64)) / (1 : Int64)) = k1 at z1 ⊢
      refine own_lstore X0 hx (Ls' := #[.val (.long q1), .second, .val (.int p2), .val (.int (5 : Int32)), .val (.long k1), .second, .val (.int (1 : Int32))]) (pc' := 33) rfl (hb hby d_prog_79_method_3_code_31) rfl ?_
      refine own_iinc X0 hx (v := (2 : Int32)) (Ls' := #[.val (.long q1), .second, .val (.int p2), .val (.int (5 : Int32)), .val (.long k1), .second, .val (.int (2 : Int32))]) (pc' := 36) rfl (hb hby d_prog_79_method_3_code_33) rfl (by decide) rfl ?_
      refine own_goto X0 hx (pc' := 6) (hb hby d_prog_79_method_3_code_36) (by decide) (by decide) ?_
      refine own_iload X0 hx (pc' := 8) rfl (hb hby d_prog_79_method_3_code_6) rfl ?_
      refine own_iloadN X0 hx (pc' := 9) rfl (hb hby d_prog_79_method_3_code_8) rfl ?_
      refine own_icmpF X0 hx (pc' := 12) rfl (hb hby d_prog_79_method_3_code_9) (XT.ii_ge_f (by decide)) ?_
      refine own_lload X0 hx (pc' := 14) rfl (hb hby d_prog_79_method_3_code_12) rfl ?_
      refine own_lloadN X0 hx (pc' := 15) rfl (hb hby d_prog_79_method_3_code_14) rfl ?_
      refine own_lcmp X0 hx (pc' := 16) rfl (hb hby d_prog_79_method_3_code_15) ?_
      by_cases c16_12 : k1 < q1
      · refine own_ifF X0 hx (pc' := 19) rfl (hb hby d_prog_79_method_3_code_16) (XT.ll_ge_f c16_12) ?_
        refine own_lload X0 hx (pc' := 21) rfl (hb hby d_prog_79_method_3_code_19) rfl ?_
        refine own_iloadN X0 hx (pc' := 22) rfl (hb hby d_prog_79_method_3_code_21) rfl ?_
        refine own_iload X0 hx (pc' := 24) rfl (hb hby d_prog_79_method_3_code_22) rfl ?_
        refine own_iadd X0 hx (v := (p2 + (2 : Int32))) (pc' := 25) rfl (hb hby d_prog_79_method_3_code_24) rfl ?_
        refine own_i2l X0 hx (v := (((p2 + (2 : Int32))).toInt64)) (pc' := 26) rfl (hb hby d_prog_79_method_3_code_25) rfl ?_
        refine own_lmul X0 hx (v := (k1 * (((p2 + (2 : Int32))).toInt64))) (pc' := 27) rfl (hb hby d_prog_79_method_3_code_26) rfl ?_
        refine own_iload X0 hx (pc' := 29) rfl (hb hby d_prog_79_method_3_code_27) rfl ?_
        refine own_i2l X0 hx (v := (2 : Int64)) (pc' := 30) rfl (hb hby d_prog_79_method_3_code_29) (by decide) ?_
        refine own_ldiv X0 hx (v := ((k1 * (((p2 + (2 : Int32))).toInt64)) / (2 : Int64))) (pc' := 31) rfl (hb hby d_prog_79_method_3_code_30) (by decide) rfl ?_
        have z2 : ((k1 * (((p2 + (2 : Int32))).toInt64)) / (2 : Int64)).toInt = own_C 2 p2.toInt := own_stage (I := (2 : Int32)) (by decide) (by decide) (by decide) hu hm z1 c16_12
        generalize ((k1 * (((p2 + (2 : Int32))).toInt64)) / (2 : Int64)) = k2 at z2 ⊢
        refine own_lstore X0 hx (Ls' := #[.val (.long q1), .second, .val (.int p2), .val (.int (5 : Int32)), .val (.long k2), .second, .val (.int (2 : Int32))]) (pc' := 33) rfl (hb hby d_prog_79_method_3_code_31) rfl ?_
        refine own_iinc X0 hx (v := (3 : Int32)) (Ls' := #[.val (.long q1), .second, .val (.int p2), .val (.int (5 : Int32)), .val (.long k2), .second, .val (.int (3 : Int32))]) (pc' := 36) rfl (hb hby d_prog_79_method_3_code_33) rfl (by decide) rfl ?_
        refine own_goto X0 hx (pc' := 6) (hb hby d_prog_79_method_3_code_36) (by decide) (by decide) ?_
        refine own_iload X0 hx (pc' := 8) rfl (hb hby d_prog_79_method_3_code_6) rfl ?_
        refine own_iloadN X0 hx (pc' := 9) rfl (hb hby d_prog_79_method_3_code_8) rfl ?_
        refine own_icmpF X0 hx (pc' := 12) rfl (hb hby d_prog_79_method_3_code_9) (XT.ii_ge_f (by decide)) ?_
        refine own_lload X0 hx (pc' := 14) rfl (hb hby d_prog_79_method_3_code_12) rfl ?_
        refine own_lloadN X0 hx (pc' := 15) rfl (hb hby d_prog_79_method_3_code_14) rfl ?_
        refine own_lcmp X0 hx (pc' := 16) rfl (hb hby d_prog_79_method_3_code_15) ?_
        by_cases c16_13 : k2 < q1
        · refine own_ifF X0 hx (pc' := 19) rfl (hb hby d_prog_79_method_3_code_16) (XT.ll_ge_f c16_13) ?_
          refine own_lload X0 hx (pc' := 21) rfl (hb hby d_prog_79_method_3_code_19) rfl ?_
          refine own_iloadN X0 hx (pc' := 22) rfl (hb hby d_prog_79_method_3_code_21) rfl ?_
          refine own_iload X0 hx (pc' := 24) rfl (hb hby d_prog_79_method_3_code_22) rfl ?_
          refine own_iadd X0 hx (v := (p2 + (3 : Int32))) (pc' := 25) rfl (hb hby d_prog_79_method_3_code_24) rfl ?_
          refine own_i2l X0 hx (v := (((p2 + (3 : Int32))).toInt64)) (pc' := 26) rfl (hb hby d_prog_79_method_3_code_25) rfl ?_
          refine own_lmul X0 hx (v := (k2 * (((p2 + (3 : Int32))).toInt64))) (pc' := 27) rfl (hb hby d_prog_79_method_3_code_26) rfl ?_
          refine own_iload X0 hx (pc' := 29) rfl (hb hby d_prog_79_method_3_code_27) rfl ?_
          refine own_i2l X0 hx (v := (3 : Int64)) (pc' := 30) rfl (hb hby d_prog_79_method_3_code_29) (by decide) ?_
          refine own_ldiv X0 hx (v := ((k2 * (((p2 + (3 : Int32))).toInt64)) / (3 : Int64))) (pc' := 31) rfl (hb hby d_prog_79_method_3_code_30) (by decide) rfl ?_
          have z3 : ((k2 * (((p2 + (3 : Int32))).toInt64)) / (3 : Int64)).toInt = own_C 3 p2.toInt := own_stage (I := (3 : Int32)) (by decide) (by decide) (by decide) hu hm z2 c16_13
          generalize ((k2 * (((p2 + (3 : Int32))).toInt64)) / (3 : Int64)) = k3 at z3 ⊢
          refine own_lstore X0 hx (Ls' := #[.val (.long q1), .second, .val (.int p2), .val (.int (5 : Int32)), .val (.long k3), .second, .val (.int (3 : Int32))]) (pc' := 33) rfl (hb hby d_prog_79_method_3_code_31) rfl ?_
          refine own_iinc X0 hx (v := (4 : Int32)) (Ls' := #[.val (.long q1), .second, .val (.int p2), .val (.int (5 : Int32)), .val (.long k3), .second, .val (.int (4 : Int32))]) (pc' := 36) rfl (hb hby d_prog_79_method_3_code_33) rfl (by decide) rfl ?_
          refine own_goto X0 hx (pc' := 6) (hb hby d_prog_79_method_3_code_36) (by decide) (by decide) ?_
          refine own_iload X0 hx (pc' := 8) rfl (hb hby d_prog_79_method_3_code_6) rfl ?_
          refine own_iloadN X0 hx (pc' := 9) rfl (hb hby d_prog_79_method_3_code_8) rfl ?_
          refine own_icmpF X0 hx (pc' := 12) rfl (hb hby d_prog_79_method_3_code_9) (XT.ii_ge_f (by decide)) ?_
          refine own_lload X0 hx (pc' := 14) rfl (hb hby d_prog_79_method_3_code_12) rfl ?_
          refine own_lloadN X0 hx (pc' := 15) rfl (hb hby d_prog_79_method_3_code_14) rfl ?_
          refine own_lcmp X0 hx (pc' := 16) rfl (hb hby d_prog_79_method_3_code_15) ?_
          by_cases c16_14 : k3 < q1
          · refine own_ifF X0 hx (pc' := 19) rfl (hb hby d_prog_79_method_3_code_16) (XT.ll_ge_f c16_14) ?_
            refine own_lload X0 hx (pc' := 21) rfl (hb hby d_prog_79_method_3_code_19) rfl ?_
            refine own_iloadN X0 hx (pc' := 22) rfl (hb hby d_prog_79_method_3_code_21) rfl ?_
            refine own_iload X0 hx (pc' := 24) rfl (hb hby d_prog_79_method_3_code_22) rfl ?_
            refine own_iadd X0 hx (v := (p2 + (4 : Int32))) (pc' := 25) rfl (hb hby d_prog_79_method_3_code_24) rfl ?_
            refine own_i2l X0 hx (v := (((p2 + (4 : Int32))).toInt64)) (pc' := 26) rfl (hb hby d_prog_79_method_3_code_25) rfl ?_
            refine own_lmul X0 hx (v := (k3 * (((p2 + (4 : Int32))).toInt64))) (pc' := 27) rfl (hb hby d_prog_79_method_3_code_26) rfl ?_
            refine own_iload X0 hx (pc' := 29) rfl (hb hby d_prog_79_method_3_code_27) rfl ?_
            refine own_i2l X0 hx (v := (4 : Int64)) (pc' := 30) rfl (hb hby d_prog_79_method_3_code_29) (by decide) ?_
            refine own_ldiv X0 hx (v := ((k3 * (((p2 + (4 : Int32))).toInt64)) / (4 : Int64))) (pc' := 31) rfl (hb hby d_prog_79_method_3_code_30) (by decide) rfl ?_
            have z4 : ((k3 * (((p2 + (4 : Int32))).toInt64)) / (4 : Int64)).toInt = own_C 4 p2.toInt := own_stage (I := (4 : Int32)) (by decide) (by decide) (by decide) hu hm z3 c16_14
            generalize ((k3 * (((p2 + (4 : Int32))).toInt64)) / (4 : Int64)) = k4 at z4 ⊢
            refine own_lstore X0 hx (Ls' := #[.val (.long q1), .second, .val (.int p2), .val (.int (5 : Int32)), .val (.long k4), .second, .val (.int (4 : Int32))]) (pc' := 33) rfl (hb hby d_prog_79_method_3_code_31) rfl ?_
            refine own_iinc X0 hx (v := (5 : Int32)) (Ls' := #[.val (.long q1), .second, .val (.int p2), .val (.int (5 : Int32)), .val (.long k4), .second, .val (.int (5 : Int32))]) (pc' := 36) rfl (hb hby d_prog_79_method_3_code_33) rfl (by decide) rfl ?_
            refine own_goto X0 hx (pc' := 6) (hb hby d_prog_79_method_3_code_36) (by decide) (by decide) ?_
            refine own_iload X0 hx (pc' := 8) rfl (hb hby d_prog_79_method_3_code_6) rfl ?_
            refine own_iloadN X0 hx (pc' := 9) rfl (hb hby d_prog_79_method_3_code_8) rfl ?_
            refine own_icmpT X0 hx (pc' := 39) (hb hby d_prog_79_method_3_code_9) (XT.ii_ge_t (by decide)) (by decide) (by decide) ?_
            refine own_lload X0 hx (pc' := 41) rfl (hb hby d_prog_79_method_3_code_39) rfl ?_
            refine own_lloadN X0 hx (pc' := 42) rfl (hb hby d_prog_79_method_3_code_41) rfl ?_
            refine own_lcmp X0 hx (pc' := 43) rfl (hb hby d_prog_79_method_3_code_42) ?_
            by_cases c43_15 : k4 < q1
            · refine own_ifF X0 hx (pc' := 46) rfl (hb hby d_prog_79_method_3_code_43) (XT.ll_ge_f c43_15) ?_
              refine own_iconst X0 hx (v := (1 : Int32)) (pc' := 47) rfl (hb hby d_prog_79_method_3_code_46) rfl ?_
              refine own_goto X0 hx (pc' := 51) (hb hby d_prog_79_method_3_code_47) (by decide) (by decide) ?_
              refine own_zret X0 hx hlk hret (by simp) (hb hby d_prog_79_method_3_code_51) (by decide) (by decide) ?_
              rw [e0]
              exact ⟨own_l1 z4 c43_15, N0, rfl⟩
            · refine own_ifT X0 hx (pc' := 50) (hb hby d_prog_79_method_3_code_43) (XT.ll_ge_t c43_15) (by decide) (by decide) ?_
              refine own_iconst X0 hx (v := (0 : Int32)) (pc' := 51) rfl (hb hby d_prog_79_method_3_code_50) rfl ?_
              refine own_zret X0 hx hlk hret (by simp) (hb hby d_prog_79_method_3_code_51) (by decide) (by decide) ?_
              rw [e0]
              exact ⟨own_l0 (i := 4) (by decide) hu.1 z4 c43_15, N0, rfl⟩
          · refine own_ifT X0 hx (pc' := 39) (hb hby d_prog_79_method_3_code_16) (XT.ll_ge_t c16_14) (by decide) (by decide) ?_
            refine own_lload X0 hx (pc' := 41) rfl (hb hby d_prog_79_method_3_code_39) rfl ?_
            refine own_lloadN X0 hx (pc' := 42) rfl (hb hby d_prog_79_method_3_code_41) rfl ?_
            refine own_lcmp X0 hx (pc' := 43) rfl (hb hby d_prog_79_method_3_code_42) ?_
            refine own_ifT X0 hx (pc' := 50) (hb hby d_prog_79_method_3_code_43) (XT.ll_ge_t c16_14) (by decide) (by decide) ?_
            refine own_iconst X0 hx (v := (0 : Int32)) (pc' := 51) rfl (hb hby d_prog_79_method_3_code_50) rfl ?_
            refine own_zret X0 hx hlk hret (by simp) (hb hby d_prog_79_method_3_code_51) (by decide) (by decide) ?_
            rw [e0]
            exact ⟨own_l0 (i := 3) (by decide) hu.1 z3 c16_14, N0, rfl⟩
        · refine own_ifT X0 hx (pc' := 39) (hb hby d_prog_79_method_3_code_16) (XT.ll_ge_t c16_13) (by decide) (by decide) ?_
          refine own_lload X0 hx (pc' := 41) rfl (hb hby d_prog_79_method_3_code_39) rfl ?_
          refine own_lloadN X0 hx (pc' := 42) rfl (hb hby d_prog_79_method_3_code_41) rfl ?_
          refine own_lcmp X0 hx (pc' := 43) rfl (hb hby d_prog_79_method_3_code_42) ?_
          refine own_ifT X0 hx (pc' := 50) (hb hby d_prog_79_method_3_code_43) (XT.ll_ge_t c16_13) (by decide) (by decide) ?_
          refine own_iconst X0 hx (v := (0 : Int32)) (pc' := 51) rfl (hb hby d_prog_79_method_3_code_50) rfl ?_
          refine own_zret X0 hx hlk hret (by simp) (hb hby d_prog_79_method_3_code_51) (by decide) (by decide) ?_
          rw [e0]
          exact ⟨own_l0 (i := 2) (by decide) hu.1 z2 c16_13, N0, rfl⟩
      · refine own_ifT X0 hx (pc' := 39) (hb hby d_prog_79_method_3_code_16) (XT.ll_ge_t c16_12) (by decide) (by decide) ?_
        refine own_lload X0 hx (pc' := 41) rfl (hb hby d_prog_79_method_3_code_39) rfl ?_
        refine own_lloadN X0 hx (pc' := 42) rfl (hb hby d_prog_79_method_3_code_41) rfl ?_
        refine own_lcmp X0 hx (pc' := 43) rfl (hb hby d_prog_79_method_3_code_42) ?_
        refine own_ifT X0 hx (pc' := 50) (hb hby d_prog_79_method_3_code_43) (XT.ll_ge_t c16_12) (by decide) (by decide) ?_
        refine own_iconst X0 hx (v := (0 : Int32)) (pc' := 51) rfl (hb hby d_prog_79_method_3_code_50) rfl ?_
        refine own_zret X0 hx hlk hret (by simp) (hb hby d_prog_79_method_3_code_51) (by decide) (by decide) ?_
        rw [e0]
        exact ⟨own_l0 (i := 1) (by decide) hu.1 z1 c16_12, N0, rfl⟩
    · refine own_ifT X0 hx (pc' := 39) (hb hby d_prog_79_method_3_code_16) (XT.ll_ge_t c16_11) (by decide) (by decide) ?_
      refine own_lload X0 hx (pc' := 41) rfl (hb hby d_prog_79_method_3_code_39) rfl ?_
      refine own_lloadN X0 hx (pc' := 42) rfl (hb hby d_prog_79_method_3_code_41) rfl ?_
      refine own_lcmp X0 hx (pc' := 43) rfl (hb hby d_prog_79_method_3_code_42) ?_
      refine own_ifT X0 hx (pc' := 50) (hb hby d_prog_79_method_3_code_43) (XT.ll_ge_t c16_11) (by decide) (by decide) ?_
      refine own_iconst X0 hx (v := (0 : Int32)) (pc' := 51) rfl (hb hby d_prog_79_method_3_code_50) rfl ?_
      refine own_zret X0 hx hlk hret (by simp) (hb hby d_prog_79_method_3_code_51) (by decide) (by decide) ?_
      rw [e0]
      exact ⟨own_l0 (i := 0) (by decide) hu.1 z0 c16_11, N0, rfl⟩
  · have z0 : (1 : Int64).toInt = own_C 0 p2.toInt := by simp only [own_C]; decide
    refine own_lconst X0 hx (v := (1 : Int64)) (pc' := 1) rfl (hb hby d_prog_79_method_3_code_0) rfl ?_
    refine own_lstore X0 hx (Ls' := #[.val (.long q1), .second, .val (.int p2), .val (.int (6 : Int32)), .val (.long (1 : Int64)), .second, .unset]) (pc' := 3) rfl (hb hby d_prog_79_method_3_code_1) rfl ?_
    refine own_iconst X0 hx (v := (1 : Int32)) (pc' := 4) rfl (hb hby d_prog_79_method_3_code_3) rfl ?_
    refine own_istore X0 hx (Ls' := #[.val (.long q1), .second, .val (.int p2), .val (.int (6 : Int32)), .val (.long (1 : Int64)), .second, .val (.int (1 : Int32))]) (pc' := 6) rfl (hb hby d_prog_79_method_3_code_4) rfl ?_
    refine own_iload X0 hx (pc' := 8) rfl (hb hby d_prog_79_method_3_code_6) rfl ?_
    refine own_iloadN X0 hx (pc' := 9) rfl (hb hby d_prog_79_method_3_code_8) rfl ?_
    refine own_icmpF X0 hx (pc' := 12) rfl (hb hby d_prog_79_method_3_code_9) (XT.ii_ge_f (by decide)) ?_
    refine own_lload X0 hx (pc' := 14) rfl (hb hby d_prog_79_method_3_code_12) rfl ?_
    refine own_lloadN X0 hx (pc' := 15) rfl (hb hby d_prog_79_method_3_code_14) rfl ?_
    refine own_lcmp X0 hx (pc' := 16) rfl (hb hby d_prog_79_method_3_code_15) ?_
    by_cases c16_16 : (1 : Int64) < q1
    · refine own_ifF X0 hx (pc' := 19) rfl (hb hby d_prog_79_method_3_code_16) (XT.ll_ge_f c16_16) ?_
      refine own_lload X0 hx (pc' := 21) rfl (hb hby d_prog_79_method_3_code_19) rfl ?_
      refine own_iloadN X0 hx (pc' := 22) rfl (hb hby d_prog_79_method_3_code_21) rfl ?_
      refine own_iload X0 hx (pc' := 24) rfl (hb hby d_prog_79_method_3_code_22) rfl ?_
      refine own_iadd X0 hx (v := (p2 + (1 : Int32))) (pc' := 25) rfl (hb hby d_prog_79_method_3_code_24) rfl ?_
      refine own_i2l X0 hx (v := (((p2 + (1 : Int32))).toInt64)) (pc' := 26) rfl (hb hby d_prog_79_method_3_code_25) rfl ?_
      refine own_lmul X0 hx (v := ((1 : Int64) * (((p2 + (1 : Int32))).toInt64))) (pc' := 27) rfl (hb hby d_prog_79_method_3_code_26) rfl ?_
      refine own_iload X0 hx (pc' := 29) rfl (hb hby d_prog_79_method_3_code_27) rfl ?_
      refine own_i2l X0 hx (v := (1 : Int64)) (pc' := 30) rfl (hb hby d_prog_79_method_3_code_29) (by decide) ?_
      refine own_ldiv X0 hx (v := (((1 : Int64) * (((p2 + (1 : Int32))).toInt64)) / (1 : Int64))) (pc' := 31) rfl (hb hby d_prog_79_method_3_code_30) (by decide) rfl ?_
      have z1 : (((1 : Int64) * (((p2 + (1 : Int32))).toInt64)) / (1 : Int64)).toInt = own_C 1 p2.toInt := own_stage (I := (1 : Int32)) (by decide) (by decide) (by decide) hu hm z0 c16_16
      generalize (((1 : Int64) * (((p2 + (1 : Int32))).toInt64)) / (1 : Int64)) = k1 at z1 ⊢
      refine own_lstore X0 hx (Ls' := #[.val (.long q1), .second, .val (.int p2), .val (.int (6 : Int32)), .val (.long k1), .second, .val (.int (1 : Int32))]) (pc' := 33) rfl (hb hby d_prog_79_method_3_code_31) rfl ?_
      refine own_iinc X0 hx (v := (2 : Int32)) (Ls' := #[.val (.long q1), .second, .val (.int p2), .val (.int (6 : Int32)), .val (.long k1), .second, .val (.int (2 : Int32))]) (pc' := 36) rfl (hb hby d_prog_79_method_3_code_33) rfl (by decide) rfl ?_
      refine own_goto X0 hx (pc' := 6) (hb hby d_prog_79_method_3_code_36) (by decide) (by decide) ?_
      refine own_iload X0 hx (pc' := 8) rfl (hb hby d_prog_79_method_3_code_6) rfl ?_
      refine own_iloadN X0 hx (pc' := 9) rfl (hb hby d_prog_79_method_3_code_8) rfl ?_
      refine own_icmpF X0 hx (pc' := 12) rfl (hb hby d_prog_79_method_3_code_9) (XT.ii_ge_f (by decide)) ?_
      refine own_lload X0 hx (pc' := 14) rfl (hb hby d_prog_79_method_3_code_12) rfl ?_
      refine own_lloadN X0 hx (pc' := 15) rfl (hb hby d_prog_79_method_3_code_14) rfl ?_
      refine own_lcmp X0 hx (pc' := 16) rfl (hb hby d_prog_79_method_3_code_15) ?_
      by_cases c16_17 : k1 < q1
      · refine own_ifF X0 hx (pc' := 19) rfl (hb hby d_prog_79_method_3_code_16) (XT.ll_ge_f c16_17) ?_
        refine own_lload X0 hx (pc' := 21) rfl (hb hby d_prog_79_method_3_code_19) rfl ?_
        refine own_iloadN X0 hx (pc' := 22) rfl (hb hby d_prog_79_method_3_code_21) rfl ?_
        refine own_iload X0 hx (pc' := 24) rfl (hb hby d_prog_79_method_3_code_22) rfl ?_
        refine own_iadd X0 hx (v := (p2 + (2 : Int32))) (pc' := 25) rfl (hb hby d_prog_79_method_3_code_24) rfl ?_
        refine own_i2l X0 hx (v := (((p2 + (2 : Int32))).toInt64)) (pc' := 26) rfl (hb hby d_prog_79_method_3_code_25) rfl ?_
        refine own_lmul X0 hx (v := (k1 * (((p2 + (2 : Int32))).toInt64))) (pc' := 27) rfl (hb hby d_prog_79_method_3_code_26) rfl ?_
        refine own_iload X0 hx (pc' := 29) rfl (hb hby d_prog_79_method_3_code_27) rfl ?_
        refine own_i2l X0 hx (v := (2 : Int64)) (pc' := 30) rfl (hb hby d_prog_79_method_3_code_29) (by decide) ?_
        refine own_ldiv X0 hx (v := ((k1 * (((p2 + (2 : Int32))).toInt64)) / (2 : Int64))) (pc' := 31) rfl (hb hby d_prog_79_method_3_code_30) (by decide) rfl ?_
        have z2 : ((k1 * (((p2 + (2 : Int32))).toInt64)) / (2 : Int64)).toInt = own_C 2 p2.toInt := own_stage (I := (2 : Int32)) (by decide) (by decide) (by decide) hu hm z1 c16_17
        generalize ((k1 * (((p2 + (2 : Int32))).toInt64)) / (2 : Int64)) = k2 at z2 ⊢
        refine own_lstore X0 hx (Ls' := #[.val (.long q1), .second, .val (.int p2), .val (.int (6 : Int32)), .val (.long k2), .second, .val (.int (2 : Int32))]) (pc' := 33) rfl (hb hby d_prog_79_method_3_code_31) rfl ?_
        refine own_iinc X0 hx (v := (3 : Int32)) (Ls' := #[.val (.long q1), .second, .val (.int p2), .val (.int (6 : Int32)), .val (.long k2), .second, .val (.int (3 : Int32))]) (pc' := 36) rfl (hb hby d_prog_79_method_3_code_33) rfl (by decide) rfl ?_
        refine own_goto X0 hx (pc' := 6) (hb hby d_prog_79_method_3_code_36) (by decide) (by decide) ?_
        refine own_iload X0 hx (pc' := 8) rfl (hb hby d_prog_79_method_3_code_6) rfl ?_
        refine own_iloadN X0 hx (pc' := 9) rfl (hb hby d_prog_79_method_3_code_8) rfl ?_
        refine own_icmpF X0 hx (pc' := 12) rfl (hb hby d_prog_79_method_3_code_9) (XT.ii_ge_f (by decide)) ?_
        refine own_lload X0 hx (pc' := 14) rfl (hb hby d_prog_79_method_3_code_12) rfl ?_
        refine own_lloadN X0 hx (pc' := 15) rfl (hb hby d_prog_79_method_3_code_14) rfl ?_
        refine own_lcmp X0 hx (pc' := 16) rfl (hb hby d_prog_79_method_3_code_15) ?_
        by_cases c16_18 : k2 < q1
        · refine own_ifF X0 hx (pc' := 19) rfl (hb hby d_prog_79_method_3_code_16) (XT.ll_ge_f c16_18) ?_
          refine own_lload X0 hx (pc' := 21) rfl (hb hby d_prog_79_method_3_code_19) rfl ?_
          refine own_iloadN X0 hx (pc' := 22) rfl (hb hby d_prog_79_method_3_code_21) rfl ?_
          refine own_iload X0 hx (pc' := 24) rfl (hb hby d_prog_79_method_3_code_22) rfl ?_
          refine own_iadd X0 hx (v := (p2 + (3 : Int32))) (pc' := 25) rfl (hb hby d_prog_79_method_3_code_24) rfl ?_
          refine own_i2l X0 hx (v := (((p2 + (3 : Int32))).toInt64)) (pc' := 26) rfl (hb hby d_prog_79_method_3_code_25) rfl ?_
          refine own_lmul X0 hx (v := (k2 * (((p2 + (3 : Int32))).toInt64))) (pc' := 27) rfl (hb hby d_prog_79_method_3_code_26) rfl ?_
          refine own_iload X0 hx (pc' := 29) rfl (hb hby d_prog_79_method_3_code_27) rfl ?_
          refine own_i2l X0 hx (v := (3 : Int64)) (pc' := 30) rfl (hb hby d_prog_79_method_3_code_29) (by decide) ?_
          refine own_ldiv X0 hx (v := ((k2 * (((p2 + (3 : Int32))).toInt64)) / (3 : Int64))) (pc' := 31) rfl (hb hby d_prog_79_method_3_code_30) (by decide) rfl ?_
          have z3 : ((k2 * (((p2 + (3 : Int32))).toInt64)) / (3 : Int64)).toInt = own_C 3 p2.toInt := own_stage (I := (3 : Int32)) (by decide) (by decide) (by decide) hu hm z2 c16_18
          generalize ((k2 * (((p2 + (3 : Int32))).toInt64)) / (3 : Int64)) = k3 at z3 ⊢
          refine own_lstore X0 hx (Ls' := #[.val (.long q1), .second, .val (.int p2), .val (.int (6 : Int32)), .val (.long k3), .second, .val (.int (3 : Int32))]) (pc' := 33) rfl (hb hby d_prog_79_method_3_code_31) rfl ?_
          refine own_iinc X0 hx (v := (4 : Int32)) (Ls' := #[.val (.long q1), .second, .val (.int p2), .val (.int (6 : Int32)), .val (.long k3), .second, .val (.int (4 : Int32))]) (pc' := 36) rfl (hb hby d_prog_79_method_3_code_33) rfl (by decide) rfl ?_
          refine own_goto X0 hx (pc' := 6) (hb hby d_prog_79_method_3_code_36) (by decide) (by decide) ?_
          refine own_iload X0 hx (pc' := 8) rfl (hb hby d_prog_79_method_3_code_6) rfl ?_
          refine own_iloadN X0 hx (pc' := 9) rfl (hb hby d_prog_79_method_3_code_8) rfl ?_
          refine own_icmpF X0 hx (pc' := 12) rfl (hb hby d_prog_79_method_3_code_9) (XT.ii_ge_f (by decide)) ?_
          refine own_lload X0 hx (pc' := 14) rfl (hb hby d_prog_79_method_3_code_12) rfl ?_
          refine own_lloadN X0 hx (pc' := 15) rfl (hb hby d_prog_79_method_3_code_14) rfl ?_
          refine own_lcmp X0 hx (pc' := 16) rfl (hb hby d_prog_79_method_3_code_15) ?_
          by_cases c16_19 : k3 < q1
          · refine own_ifF X0 hx (pc' := 19) rfl (hb hby d_prog_79_method_3_code_16) (XT.ll_ge_f c16_19) ?_
            refine own_lload X0 hx (pc' := 21) rfl (hb hby d_prog_79_method_3_code_19) rfl ?_
            refine own_iloadN X0 hx (pc' := 22) rfl (hb hby d_prog_79_method_3_code_21) rfl ?_
            refine own_iload X0 hx (pc' := 24) rfl (hb hby d_prog_79_method_3_code_22) rfl ?_
            refine own_iadd X0 hx (v := (p2 + (4 : Int32))) (pc' := 25) rfl (hb hby d_prog_79_method_3_code_24) rfl ?_
            refine own_i2l X0 hx (v := (((p2 + (4 : Int32))).toInt64)) (pc' := 26) rfl (hb hby d_prog_79_method_3_code_25) rfl ?_
            refine own_lmul X0 hx (v := (k3 * (((p2 + (4 : Int32))).toInt64))) (pc' := 27) rfl (hb hby d_prog_79_method_3_code_26) rfl ?_
            refine own_iload X0 hx (pc' := 29) rfl (hb hby d_prog_79_method_3_code_27) rfl ?_
            refine own_i2l X0 hx (v := (4 : Int64)) (pc' := 30) rfl (hb hby d_prog_79_method_3_code_29) (by decide) ?_
            refine own_ldiv X0 hx (v := ((k3 * (((p2 + (4 : Int32))).toInt64)) / (4 : Int64))) (pc' := 31) rfl (hb hby d_prog_79_method_3_code_30) (by decide) rfl ?_
            have z4 : ((k3 * (((p2 + (4 : Int32))).toInt64)) / (4 : Int64)).toInt = own_C 4 p2.toInt := own_stage (I := (4 : Int32)) (by decide) (by decide) (by decide) hu hm z3 c16_19
            generalize ((k3 * (((p2 + (4 : Int32))).toInt64)) / (4 : Int64)) = k4 at z4 ⊢
            refine own_lstore X0 hx (Ls' := #[.val (.long q1), .second, .val (.int p2), .val (.int (6 : Int32)), .val (.long k4), .second, .val (.int (4 : Int32))]) (pc' := 33) rfl (hb hby d_prog_79_method_3_code_31) rfl ?_
            refine own_iinc X0 hx (v := (5 : Int32)) (Ls' := #[.val (.long q1), .second, .val (.int p2), .val (.int (6 : Int32)), .val (.long k4), .second, .val (.int (5 : Int32))]) (pc' := 36) rfl (hb hby d_prog_79_method_3_code_33) rfl (by decide) rfl ?_
            refine own_goto X0 hx (pc' := 6) (hb hby d_prog_79_method_3_code_36) (by decide) (by decide) ?_
            refine own_iload X0 hx (pc' := 8) rfl (hb hby d_prog_79_method_3_code_6) rfl ?_
            refine own_iloadN X0 hx (pc' := 9) rfl (hb hby d_prog_79_method_3_code_8) rfl ?_
            refine own_icmpF X0 hx (pc' := 12) rfl (hb hby d_prog_79_method_3_code_9) (XT.ii_ge_f (by decide)) ?_
            refine own_lload X0 hx (pc' := 14) rfl (hb hby d_prog_79_method_3_code_12) rfl ?_
            refine own_lloadN X0 hx (pc' := 15) rfl (hb hby d_prog_79_method_3_code_14) rfl ?_
            refine own_lcmp X0 hx (pc' := 16) rfl (hb hby d_prog_79_method_3_code_15) ?_
            by_cases c16_20 : k4 < q1
            · refine own_ifF X0 hx (pc' := 19) rfl (hb hby d_prog_79_method_3_code_16) (XT.ll_ge_f c16_20) ?_
              refine own_lload X0 hx (pc' := 21) rfl (hb hby d_prog_79_method_3_code_19) rfl ?_
              refine own_iloadN X0 hx (pc' := 22) rfl (hb hby d_prog_79_method_3_code_21) rfl ?_
              refine own_iload X0 hx (pc' := 24) rfl (hb hby d_prog_79_method_3_code_22) rfl ?_
              refine own_iadd X0 hx (v := (p2 + (5 : Int32))) (pc' := 25) rfl (hb hby d_prog_79_method_3_code_24) rfl ?_
              refine own_i2l X0 hx (v := (((p2 + (5 : Int32))).toInt64)) (pc' := 26) rfl (hb hby d_prog_79_method_3_code_25) rfl ?_
              refine own_lmul X0 hx (v := (k4 * (((p2 + (5 : Int32))).toInt64))) (pc' := 27) rfl (hb hby d_prog_79_method_3_code_26) rfl ?_
              refine own_iload X0 hx (pc' := 29) rfl (hb hby d_prog_79_method_3_code_27) rfl ?_
              refine own_i2l X0 hx (v := (5 : Int64)) (pc' := 30) rfl (hb hby d_prog_79_method_3_code_29) (by decide) ?_
              refine own_ldiv X0 hx (v := ((k4 * (((p2 + (5 : Int32))).toInt64)) / (5 : Int64))) (pc' := 31) rfl (hb hby d_prog_79_method_3_code_30) (by decide) rfl ?_
              have z5 : ((k4 * (((p2 + (5 : Int32))).toInt64)) / (5 : Int64)).toInt = own_C 5 p2.toInt := own_stage (I := (5 : Int32)) (by decide) (by decide) (by decide) hu hm z4 c16_20
              generalize ((k4 * (((p2 + (5 : Int32))).toInt64)) / (5 : Int64)) = k5 at z5 ⊢
              refine own_lstore X0 hx (Ls' := #[.val (.long q1), .second, .val (.int p2), .val (.int (6 : Int32)), .val (.long k5), .second, .val (.int (5 : Int32))]) (pc' := 33) rfl (hb hby d_prog_79_method_3_code_31) rfl ?_
              refine own_iinc X0 hx (v := (6 : Int32)) (Ls' := #[.val (.long q1), .second, .val (.int p2), .val (.int (6 : Int32)), .val (.long k5), .second, .val (.int (6 : Int32))]) (pc' := 36) rfl (hb hby d_prog_79_method_3_code_33) rfl (by decide) rfl ?_
              refine own_goto X0 hx (pc' := 6) (hb hby d_prog_79_method_3_code_36) (by decide) (by decide) ?_
              refine own_iload X0 hx (pc' := 8) rfl (hb hby d_prog_79_method_3_code_6) rfl ?_
              refine own_iloadN X0 hx (pc' := 9) rfl (hb hby d_prog_79_method_3_code_8) rfl ?_
              refine own_icmpT X0 hx (pc' := 39) (hb hby d_prog_79_method_3_code_9) (XT.ii_ge_t (by decide)) (by decide) (by decide) ?_
              refine own_lload X0 hx (pc' := 41) rfl (hb hby d_prog_79_method_3_code_39) rfl ?_
              refine own_lloadN X0 hx (pc' := 42) rfl (hb hby d_prog_79_method_3_code_41) rfl ?_
              refine own_lcmp X0 hx (pc' := 43) rfl (hb hby d_prog_79_method_3_code_42) ?_
              by_cases c43_21 : k5 < q1
              · refine own_ifF X0 hx (pc' := 46) rfl (hb hby d_prog_79_method_3_code_43) (XT.ll_ge_f c43_21) ?_
                refine own_iconst X0 hx (v := (1 : Int32)) (pc' := 47) rfl (hb hby d_prog_79_method_3_code_46) rfl ?_
                refine own_goto X0 hx (pc' := 51) (hb hby d_prog_79_method_3_code_47) (by decide) (by decide) ?_
                refine own_zret X0 hx hlk hret (by simp) (hb hby d_prog_79_method_3_code_51) (by decide) (by decide) ?_
                rw [e0]
                exact ⟨own_l1 z5 c43_21, N0, rfl⟩
              · refine own_ifT X0 hx (pc' := 50) (hb hby d_prog_79_method_3_code_43) (XT.ll_ge_t c43_21) (by decide) (by decide) ?_
                refine own_iconst X0 hx (v := (0 : Int32)) (pc' := 51) rfl (hb hby d_prog_79_method_3_code_50) rfl ?_
                refine own_zret X0 hx hlk hret (by simp) (hb hby d_prog_79_method_3_code_51) (by decide) (by decide) ?_
                rw [e0]
                exact ⟨own_l0 (i := 5) (by decide) hu.1 z5 c43_21, N0, rfl⟩
            · refine own_ifT X0 hx (pc' := 39) (hb hby d_prog_79_method_3_code_16) (XT.ll_ge_t c16_20) (by decide) (by decide) ?_
              refine own_lload X0 hx (pc' := 41) rfl (hb hby d_prog_79_method_3_code_39) rfl ?_
              refine own_lloadN X0 hx (pc' := 42) rfl (hb hby d_prog_79_method_3_code_41) rfl ?_
              refine own_lcmp X0 hx (pc' := 43) rfl (hb hby d_prog_79_method_3_code_42) ?_
              refine own_ifT X0 hx (pc' := 50) (hb hby d_prog_79_method_3_code_43) (XT.ll_ge_t c16_20) (by decide) (by decide) ?_
              refine own_iconst X0 hx (v := (0 : Int32)) (pc' := 51) rfl (hb hby d_prog_79_method_3_code_50) rfl ?_
              refine own_zret X0 hx hlk hret (by simp) (hb hby d_prog_79_method_3_code_51) (by decide) (by decide) ?_
              rw [e0]
              exact ⟨own_l0 (i := 4) (by decide) hu.1 z4 c16_20, N0, rfl⟩
          · refine own_ifT X0 hx (pc' := 39) (hb hby d_prog_79_method_3_code_16) (XT.ll_ge_t c16_19) (by decide) (by decide) ?_
            refine own_lload X0 hx (pc' := 41) rfl (hb hby d_prog_79_method_3_code_39) rfl ?_
            refine own_lloadN X0 hx (pc' := 42) rfl (hb hby d_prog_79_method_3_code_41) rfl ?_
            refine own_lcmp X0 hx (pc' := 43) rfl (hb hby d_prog_79_method_3_code_42) ?_
            refine own_ifT X0 hx (pc' := 50) (hb hby d_prog_79_method_3_code_43) (XT.ll_ge_t c16_19) (by decide) (by decide) ?_
            refine own_iconst X0 hx (v := (0 : Int32)) (pc' := 51) rfl (hb hby d_prog_79_method_3_code_50) rfl ?_
            refine own_zret X0 hx hlk hret (by simp) (hb hby d_prog_79_method_3_code_51) (by decide) (by decide) ?_
            rw [e0]
            exact ⟨own_l0 (i := 3) (by decide) hu.1 z3 c16_19, N0, rfl⟩
        · refine own_ifT X0 hx (pc' := 39) (hb hby d_prog_79_method_3_code_16) (XT.ll_ge_t c16_18) (by decide) (by decide) ?_
          refine own_lload X0 hx (pc' := 41) rfl (hb hby d_prog_79_method_3_code_39) rfl ?_
          refine own_lloadN X0 hx (pc' := 42) rfl (hb hby d_prog_79_method_3_code_41) rfl ?_
          refine own_lcmp X0 hx (pc' := 43) rfl (hb hby d_prog_79_method_3_code_42) ?_
          refine own_ifT X0 hx (pc' := 50) (hb hby d_prog_79_method_3_code_43) (XT.ll_ge_t c16_18) (by decide) (by decide) ?_
          refine own_iconst X0 hx (v := (0 : Int32)) (pc' := 51) rfl (hb hby d_prog_79_method_3_code_50) rfl ?_
          refine own_zret X0 hx hlk hret (by simp) (hb hby d_prog_79_method_3_code_51) (by decide) (by decide) ?_
          rw [e0]
          exact ⟨own_l0 (i := 2) (by decide) hu.1 z2 c16_18, N0, rfl⟩
      · refine own_ifT X0 hx (pc' := 39) (hb hby d_prog_79_method_3_code_16) (XT.ll_ge_t c16_17) (by decide) (by decide) ?_
        refine own_lload X0 hx (pc' := 41) rfl (hb hby d_prog_79_method_3_code_39) rfl ?_
        refine own_lloadN X0 hx (pc' := 42) rfl (hb hby d_prog_79_method_3_code_41) rfl ?_
        refine own_lcmp X0 hx (pc' := 43) rfl (hb hby d_prog_79_method_3_code_42) ?_
        refine own_ifT X0 hx (pc' := 50) (hb hby d_prog_79_method_3_code_43) (XT.ll_ge_t c16_17) (by decide) (by decide) ?_
        refine own_iconst X0 hx (v := (0 : Int32)) (pc' := 51) rfl (hb hby d_prog_79_method_3_code_50) rfl ?_
        refine own_zret X0 hx hlk hret (by simp) (hb hby d_prog_79_method_3_code_51) (by decide) (by decide) ?_
        rw [e0]
        exact ⟨own_l0 (i := 1) (by decide) hu.1 z1 c16_17, N0, rfl⟩
    · refine own_ifT X0 hx (pc' := 39) (hb hby d_prog_79_method_3_code_16) (XT.ll_ge_t c16_16) (by decide) (by decide) ?_
      refine own_lload X0 hx (pc' := 41) rfl (hb hby d_prog_79_method_3_code_39) rfl ?_
      refine own_lloadN X0 hx (pc' := 42) rfl (hb hby d_prog_79_method_3_code_41) rfl ?_
      refine own_lcmp X0 hx (pc' := 43) rfl (hb hby d_prog_79_method_3_code_42) ?_
      refine own_ifT X0 hx (pc' := 50) (hb hby d_prog_79_method_3_code_43) (XT.ll_ge_t c16_16) (by decide) (by decide) ?_
      refine own_iconst X0 hx (v := (0 : Int32)) (pc' := 51) rfl (hb hby d_prog_79_method_3_code_50) rfl ?_
      refine own_zret X0 hx hlk hret (by simp) (hb hby d_prog_79_method_3_code_51) (by decide) (by decide) ?_
      rw [e0]
      exact ⟨own_l0 (i := 0) (by decide) hu.1 z0 c16_16, N0, rfl⟩
theorem own_un (x : Int32) : 0 ≤ (x &&& (1073741823 : Int32)).toInt ∧ (x &&& (1073741823 : Int32)).toInt < 2 ^ 30 := by
  have e1 : (x &&& 1073741823).toInt = x.toInt % 2 ^ 30 := Jvm.Kit.i32_mask x 1073741823 (k := 30) (by decide) (by decide)
  omega
theorem own_cand (x : Int32) : ∃ n : Nat, (n = 0 ∧ ((1 : Int32) + ((x &&& (2147483647 : Int32)) % (6 : Int32))) = (1 : Int32)) ∨ (n = 1 ∧ ((1 : Int32) + ((x &&& (2147483647 : Int32)) % (6 : Int32))) = (2 : Int32)) ∨ (n = 2 ∧ ((1 : Int32) + ((x &&& (2147483647 : Int32)) % (6 : Int32))) = (3 : Int32)) ∨ (n = 3 ∧ ((1 : Int32) + ((x &&& (2147483647 : Int32)) % (6 : Int32))) = (4 : Int32)) ∨ (n = 4 ∧ ((1 : Int32) + ((x &&& (2147483647 : Int32)) % (6 : Int32))) = (5 : Int32)) ∨ (n = 5 ∧ ((1 : Int32) + ((x &&& (2147483647 : Int32)) % (6 : Int32))) = (6 : Int32)) := by
  have e1 : (x &&& 2147483647).toInt = x.toInt % 2 ^ 31 := Jvm.Kit.i32_mask x 2147483647 (k := 31) (by decide) (by decide)
  have e2 : ((x &&& 2147483647) % 6).toInt = (x &&& 2147483647).toInt % (6 : Int32).toInt := Jvm.Kit.i32_rem_nonneg (by omega)
  have e3 : (6 : Int32).toInt = 6 := by decide
  have e4 : (1 : Int32).toInt = 1 := by decide
  rw [e3] at e2
  have e5 : ((1 : Int32) + ((x &&& 2147483647) % 6)).toInt = (1 : Int32).toInt + ((x &&& 2147483647) % 6).toInt := Jvm.Kit.i32_add (by omega) (by omega)
  have h : ((1 : Int32) + ((x &&& 2147483647) % 6)).toInt = 1 ∨ ((1 : Int32) + ((x &&& 2147483647) % 6)).toInt = 2 ∨ ((1 : Int32) + ((x &&& 2147483647) % 6)).toInt = 3 ∨ ((1 : Int32) + ((x &&& 2147483647) % 6)).toInt = 4 ∨ ((1 : Int32) + ((x &&& 2147483647) % 6)).toInt = 5 ∨ ((1 : Int32) + ((x &&& 2147483647) % 6)).toInt = 6 := by omega
  have k : ∀ m : Int32, ((1 : Int32) + ((x &&& 2147483647) % 6)).toInt = m.toInt → ((1 : Int32) + ((x &&& 2147483647) % 6)) = m := fun m h => Int32.toInt_inj.mp h
  rcases h with h | h | h | h | h | h
  · exact ⟨0, Or.inl ⟨rfl, k 1 h⟩⟩
  · exact ⟨1, Or.inr (Or.inl ⟨rfl, k 2 h⟩)⟩
  · exact ⟨2, Or.inr (Or.inr (Or.inl ⟨rfl, k 3 h⟩))⟩
  · exact ⟨3, Or.inr (Or.inr (Or.inr (Or.inl ⟨rfl, k 4 h⟩)))⟩
  · exact ⟨4, Or.inr (Or.inr (Or.inr (Or.inr (Or.inl ⟨rfl, k 5 h⟩))))⟩
  · exact ⟨5, Or.inr (Or.inr (Or.inr (Or.inr (Or.inr ⟨rfl, k 6 h⟩))))⟩
theorem own_lit (k : Int64) (n : Int) (h : k.toInt = n) : k.toInt = n := h
theorem own_spec {un cd : Int32} {n : Nat} (hu : 0 ≤ un.toInt ∧ un.toInt < 2 ^ 30) (hn : (n = 0 ∧ cd = (1 : Int32)) ∨ (n = 1 ∧ cd = (2 : Int32)) ∨ (n = 2 ∧ cd = (3 : Int32)) ∨ (n = 3 ∧ cd = (4 : Int32)) ∨ (n = 4 ∧ cd = (5 : Int32)) ∨ (n = 5 ∧ cd = (6 : Int32))) : (∀ q : Int64, q.toInt ≤ 2 ^ 31 → ((own_plans (un.toInt64) cd) < q ↔ own_C n un.toInt < q.toInt)) ∧ 1 ≤ (own_plans (un.toInt64) cd).toInt := by
  have eu : (un.toInt64).toInt = un.toInt := Jvm.Kit.i64_of_i32 un
  generalize un.toInt64 = u at eu ⊢
  generalize un.toInt = U at eu hu ⊢
  have a1 := own_addI (k := 1) (K := 1) eu (by decide) hu.1 (by omega) (by decide) (by decide)
  have a2 := own_addI (k := 2) (K := 2) eu (by decide) hu.1 (by omega) (by decide) (by decide)
  have a3 := own_addI (k := 3) (K := 3) eu (by decide) hu.1 (by omega) (by decide) (by decide)
  have a4 := own_addI (k := 4) (K := 4) eu (by decide) hu.1 (by omega) (by decide) (by decide)
  have a5 := own_addI (k := 5) (K := 5) eu (by decide) hu.1 (by omega) (by decide) (by decide)
  have b2 := own_pm (a := U + 1) (b := U + 2) (A := 2 ^ 31) (B := 2 ^ 31) (by omega) (by omega) (by omega) (by omega)
  have m2 := own_mulI a1 a2 b2 (by decide)
  have pc := own_Cpos hu.1
  -- a value that is own_C n U answers
  have good : ∀ v : Int64, v.toInt = own_C n U → (∀ q : Int64, q.toInt ≤ 2 ^ 31 → (v < q ↔ own_C n U < q.toInt)) ∧ 1 ≤ v.toInt := fun v hv => ⟨fun q _ => by rw [Int64.lt_iff_toInt_lt, hv], by rw [hv]; exact pc n⟩
  have huge : 2 ^ 31 ≤ own_C n U → (∀ q : Int64, q.toInt ≤ 2 ^ 31 → ((1099511627776 : Int64) < q ↔ own_C n U < q.toInt)) ∧ 1 ≤ (1099511627776 : Int64).toInt := fun h => ⟨fun q hq => by
      have e : (1099511627776 : Int64).toInt = 1099511627776 := by decide
      rw [Int64.lt_iff_toInt_lt, e]; omega, by decide⟩
  have lt : ∀ k : Int64, ∀ K : Int, k.toInt = K → (u < k ↔ U < K) := fun k K h => by rw [Int64.lt_iff_toInt_lt, eu, h]
  rcases hn with ⟨rfl, rfl⟩ | ⟨rfl, rfl⟩ | ⟨rfl, rfl⟩ | ⟨rfl, rfl⟩ | ⟨rfl, rfl⟩ | ⟨rfl, rfl⟩
  · exact good _ (by rw [show own_plans u 1 = 1 from by simp [own_plans]]; simp only [own_C]; decide)
  · exact good _ (by rw [show own_plans u 2 = u + 1 from rfl, a1, own_C1])
  · exact good _ (by rw [show own_plans u 3 = (u + 1) * (u + 2) / 2 from rfl, own_divI m2 (Y := 2) (by decide) b2.1 (by decide), own_C2])
  · by_cases g : U < 4096
    · have g' : u < (4096 : Int64) := (lt 4096 4096 (by decide)).mpr g
      have c2 := own_pm (a := U + 1) (b := U + 2) (A := 8192) (B := 8192) (by omega) (by omega) (by omega) (by omega)
      have c3 := own_pm (a := (U + 1) * (U + 2)) (b := U + 3) (A := 8192 * 8192) (B := 8192) c2.1 (by omega) c2.2 (by omega)
      have m3 := own_mulI m2 a3 c3 (by decide)
      exact good _ (by rw [show own_plans u 4 = (u + 1) * (u + 2) * (u + 3) / 6 from by unfold own_plans; rw [if_neg (by decide), if_neg (by decide), if_neg (by decide), if_pos rfl, if_pos g'], own_divI m3 (Y := 6) (by decide) c3.1 (by decide), own_C3])
    · have g' : ¬ u < (4096 : Int64) := fun z => g ((lt 4096 4096 (by decide)).mp z)
      rw [show own_plans u 4 = 1099511627776 from by unfold own_plans; rw [if_neg (by decide), if_neg (by decide), if_neg (by decide), if_pos rfl, if_neg g']]
      refine huge ?_
      rw [own_C3]
      have d2 := own_big (a := U + 1) (b := U + 2) (A := 4097) (B := 4098) (by decide) (by decide) (by omega) (by omega)
      have d3 := own_big (a := (U + 1) * (U + 2)) (b := U + 3) (A := 4097 * 4098) (B := 4099) (by decide) (by decide) d2 (by omega)
      omega
  · by_cases g : U < 1024
    · have g' : u < (1024 : Int64) := (lt 1024 1024 (by decide)).mpr g
      have c2 := own_pm (a := U + 1) (b := U + 2) (A := 2048) (B := 2048) (by omega) (by omega) (by omega) (by omega)
      have c3 := own_pm (a := (U + 1) * (U + 2)) (b := U + 3) (A := 2048 * 2048) (B := 2048) c2.1 (by omega) c2.2 (by omega)
      have m3 := own_mulI m2 a3 c3 (by decide)
      have c4 := own_pm (a := (U + 1) * (U + 2) * (U + 3)) (b := U + 4) (A := 2048 * 2048 * 2048) (B := 2048) c3.1 (by omega) c3.2 (by omega)
      have m4 := own_mulI m3 a4 c4 (by decide)
      exact good _ (by rw [show own_plans u 5 = (u + 1) * (u + 2) * (u + 3) * (u + 4) / 24 from by unfold own_plans; rw [if_neg (by decide), if_neg (by decide), if_neg (by decide), if_neg (by decide), if_pos rfl, if_pos g'], own_divI m4 (Y := 24) (by decide) c4.1 (by decide), own_C4])
    · have g' : ¬ u < (1024 : Int64) := fun z => g ((lt 1024 1024 (by decide)).mp z)
      rw [show own_plans u 5 = 1099511627776 from by unfold own_plans; rw [if_neg (by decide), if_neg (by decide), if_neg (by decide), if_neg (by decide), if_pos rfl, if_neg g']]
      refine huge ?_
      rw [own_C4]
      have d2 := own_big (a := U + 1) (b := U + 2) (A := 1025) (B := 1026) (by decide) (by decide) (by omega) (by omega)
      have d3 := own_big (a := (U + 1) * (U + 2)) (b := U + 3) (A := 1025 * 1026) (B := 1027) (by decide) (by decide) d2 (by omega)
      have d4 := own_big (a := (U + 1) * (U + 2) * (U + 3)) (b := U + 4) (A := 1025 * 1026 * 1027) (B := 1028) (by decide) (by decide) d3 (by omega)
      omega
  · by_cases g : U < 256
    · have g' : u < (256 : Int64) := (lt 256 256 (by decide)).mpr g
      have c2 := own_pm (a := U + 1) (b := U + 2) (A := 512) (B := 512) (by omega) (by omega) (by omega) (by omega)
      have c3 := own_pm (a := (U + 1) * (U + 2)) (b := U + 3) (A := 512 * 512) (B := 512) c2.1 (by omega) c2.2 (by omega)
      have m3 := own_mulI m2 a3 c3 (by decide)
      have c4 := own_pm (a := (U + 1) * (U + 2) * (U + 3)) (b := U + 4) (A := 512 * 512 * 512) (B := 512) c3.1 (by omega) c3.2 (by omega)
      have m4 := own_mulI m3 a4 c4 (by decide)
      have c5 := own_pm (a := (U + 1) * (U + 2) * (U + 3) * (U + 4)) (b := U + 5) (A := 512 * 512 * 512 * 512) (B := 512) c4.1 (by omega) c4.2 (by omega)
      have m5 := own_mulI m4 a5 c5 (by decide)
      exact good _ (by rw [show own_plans u 6 = (u + 1) * (u + 2) * (u + 3) * (u + 4) * (u + 5) / 120 from by unfold own_plans; rw [if_neg (by decide), if_neg (by decide), if_neg (by decide), if_neg (by decide), if_neg (by decide), if_pos g'], own_divI m5 (Y := 120) (by decide) c5.1 (by decide), own_C5 hu.1])
    · have g' : ¬ u < (256 : Int64) := fun z => g ((lt 256 256 (by decide)).mp z)
      rw [show own_plans u 6 = 1099511627776 from by unfold own_plans; rw [if_neg (by decide), if_neg (by decide), if_neg (by decide), if_neg (by decide), if_neg (by decide), if_neg g']]
      refine huge ?_
      rw [own_C5 hu.1]
      have d2 := own_big (a := U + 1) (b := U + 2) (A := 257) (B := 258) (by decide) (by decide) (by omega) (by omega)
      have d3 := own_big (a := (U + 1) * (U + 2)) (b := U + 3) (A := 257 * 258) (B := 259) (by decide) (by decide) d2 (by omega)
      have d4 := own_big (a := (U + 1) * (U + 2) * (U + 3)) (b := U + 4) (A := 257 * 258 * 259) (B := 260) (by decide) (by decide) d3 (by omega)
      have d5 := own_big (a := (U + 1) * (U + 2) * (U + 3) * (U + 4)) (b := U + 5) (A := 257 * 258 * 259 * 260) (B := 261) (by decide) (by decide) d4 (by omega)
      omega
theorem own_m1 (x : Int32) : (x.toInt64).toInt ≤ 2 ^ 31 := by
  rw [Jvm.Kit.i64_of_i32]
  have := Int32.toInt_lt x
  omega
theorem own_m2 {rf : Int64} (d : Int32) (h : rf < (2147483647 : Int64)) (h1 : 1 ≤ rf.toInt) : ((rf + (((XT.ushr d (1 : Int32)) % (3 : Int32)).toInt64)) - (1 : Int64)).toInt ≤ 2 ^ 31 := by
  have e0 : (2147483647 : Int64).toInt = 2147483647 := by decide
  have e3 : (3 : Int32).toInt = 3 := by decide
  have e1 : (1 : Int64).toInt = 1 := by decide
  rw [Int64.lt_iff_toInt_lt, e0] at h
  have b : -3 < ((XT.ushr d (1 : Int32)) % (3 : Int32)).toInt ∧ ((XT.ushr d (1 : Int32)) % (3 : Int32)).toInt < 3 := by
    rw [Jvm.Kit.i32_rem, e3]
    exact ⟨Int.lt_tmod_of_pos _ (by decide), Int.tmod_lt_of_pos _ (by decide)⟩
  have q := Jvm.Kit.i64_of_i32 ((XT.ushr d (1 : Int32)) % (3 : Int32))
  generalize ((XT.ushr d (1 : Int32)) % (3 : Int32)).toInt64 = w at q ⊢
  have e4 := Jvm.Kit.i64_add (x := rf) (y := w) (by omega) (by omega)
  rw [Jvm.Kit.i64_sub (by omega) (by omega), e4, e1]
  omega
theorem own_e1 {n : Nat} {U : Int} {q : Int64} (h : own_C n U < q.toInt) : own_few n U q.toInt = (1 : Int32) := by unfold own_few; rw [if_pos h]
theorem own_e0 {n : Nat} {U : Int} {q : Int64} (h : ¬ own_C n U < q.toInt) : own_few n U q.toInt = (0 : Int32) := by unfold own_few; rw [if_neg h]
theorem ef_rm_law (m : MethodId) (p1 : Int32) (p2 : Int32) (p3 : Int32) (p4 : Int32) : entryFrame m #[(.int p1), (.int p2), (.int p3), (.int p4)] maxLocals = mkF m 0 #[.val (.int p1), .val (.int p2), .val (.int p3), .val (.int p4), .unset, .unset, .unset, .unset, .unset, .unset, .unset] [] := by first | (simp [entryFrame, mkF, argsToLocals, Value.category, maxLocals]; done) | rfl
def K_rm_law  (Z : State) (h0 : Heap) (n0 : Nat) (p1 : Int32) (p2 : Int32) (p3 : Int32) (p4 : Int32) (v : Option Value) (h : Heap) (L : List Loc) : Prop := v = some (.int 1) ∧ Fr n0 L
theorem pd__JI_J : parseMethodDescriptor "(JI)J" = some ⟨[.long, .int], some .long⟩ := by decide +kernel
theorem pd__JII_Z : parseMethodDescriptor "(JII)Z" = some ⟨[.long, .int, .int], some .boolean⟩ := by decide +kernel
set_option maxRecDepth 65536 in
set_option maxHeartbeats 40000000 in
theorem rm_law (l : Launch) (Z : State) (a0 : Array Value) (hw : ∀ d ∈ tables_1, d.before a0 Z = true) (ws : List Jvm.Cond)  (p1 : Int32) (p2 : Int32) (p3 : Int32) (p4 : Int32) (h0 : Heap) (n0 : Nat) (Z0 : n0 ≤ h0.size) :
    MetFree l x (head1 (Jvm.Cond.code x code maxLocals ret :: ws) room_1) (fun a U => a = #[(.int p1), (.int p2), (.int p3), (.int p4)] ∧ Z.Warmed39 U.vm ∧ U.heap = h0) (fun _ _ _ _ _ => True) (fun _ U o U' => ∃ v L, o = .returned v ∧ (K_rm_law  Z h0 n0 p1 p2 p3 p4) v U'.heap L ∧ FrameEnd U o U' L room_1.cells room_1.slots) := by
  refine own_body (plainFor_of_name pn_com_example_tranchery_tranchery_solve_PlanFewerThanPinLaw) ?_
  intro p e s m below meth c s₁ hx hby hml hown hnm hret hlk hZ X0 e0
  have hown : s.vm.findClass "com/example/tranchery/tranchery/solve/PlanFewerThanPinLaw" = some m.cls := hown
  have N0 := Fr.nil n0
  rw [ef_rm_law m p1 p2 p3 p4]
  refine own_iloadN X0 hx (pc' := 1) rfl (hb hby at_0) rfl ?_
  refine own_ldc X0 hx hZ hown (hw _ (List.mem_of_getElem? (i := 0) rfl)) (pc' := 3) rfl (hb hby at_1) ?_
  refine own_iand X0 hx (v := (p2 &&& (1073741823 : Int32))) (pc' := 4) rfl (hb hby at_3) rfl ?_
  have hu := own_un p2
  generalize (p2 &&& (1073741823 : Int32)) = un at hu ⊢
  refine own_istore X0 hx (Ls' := #[.val (.int p1), .val (.int p2), .val (.int p3), .val (.int p4), .val (.int un), .unset, .unset, .unset, .unset, .unset, .unset]) (pc' := 6) rfl (hb hby at_4) rfl ?_
  refine own_iconst X0 hx (v := (1 : Int32)) (pc' := 7) rfl (hb hby at_6) rfl ?_
  refine own_iloadN X0 hx (pc' := 8) rfl (hb hby at_7) rfl ?_
  refine own_ldc X0 hx hZ hown (hw _ (List.mem_of_getElem? (i := 1) rfl)) (pc' := 10) rfl (hb hby at_8) ?_
  refine own_iand X0 hx (v := (p3 &&& (2147483647 : Int32))) (pc' := 11) rfl (hb hby at_10) rfl ?_
  refine own_bipush X0 hx (v := (6 : Int32)) (pc' := 13) rfl (hb hby at_11) rfl ?_
  refine own_irem X0 hx (v := ((p3 &&& (2147483647 : Int32)) % (6 : Int32))) (pc' := 14) rfl (hb hby at_13) (by decide) rfl ?_
  refine own_iadd X0 hx (v := ((1 : Int32) + ((p3 &&& (2147483647 : Int32)) % (6 : Int32)))) (pc' := 15) rfl (hb hby at_14) rfl ?_
  obtain ⟨n, hn⟩ := own_cand p3
  generalize ((1 : Int32) + ((p3 &&& (2147483647 : Int32)) % (6 : Int32))) = cd at hn ⊢
  refine own_istore X0 hx (Ls' := #[.val (.int p1), .val (.int p2), .val (.int p3), .val (.int p4), .val (.int un), .val (.int cd), .unset, .unset, .unset, .unset, .unset]) (pc' := 17) rfl (hb hby at_15) rfl ?_
  refine own_iload X0 hx (pc' := 19) rfl (hb hby at_17) rfl ?_
  refine own_i2l X0 hx (v := ((un).toInt64)) (pc' := 20) rfl (hb hby at_19) rfl ?_
  refine own_iload X0 hx (pc' := 22) rfl (hb hby at_20) rfl ?_
  refine own_callS X0 hx hZ (y := (⟨"com/example/tranchery/tranchery/solve/PlanFewerThanPinLaw", "plans", "(JI)J"⟩ : MethodName)) hown (hw _ (List.mem_of_getElem? (i := 2) rfl)) (hw _ (List.mem_of_getElem? (i := 3) rfl)) (hw _ (List.mem_of_getElem? (i := 4) rfl)) (hw _ (List.mem_of_getElem? (i := 5) rfl))  (by decide) (rm_plans l Z a0 hw [] ((un).toInt64) cd h0 n0 Z0) (by decide) (W := 0) (by decide) (by decide) (by decide) e0 (by rw [hml]; rfl) (argsL := [(.long ((un).toInt64)), (.int cd)]) (rest := []) rfl (lenOf pd__JI_J rfl) rfl (Nat.le_of_eq rfl) (pc' := 25) rfl (hb hby at_22) ?_
  rintro _ T1 L1 X1 ⟨rfl, N1, e1⟩
  have M1 := Fr.app N0 N1
  show own_Goes p e below T1 (mkF m 25 #[.val (.int p1), .val (.int p2), .val (.int p3), .val (.int p4), .val (.int un), .val (.int cd), .unset, .unset, .unset, .unset, .unset] [(.long (own_plans ((un).toInt64) cd))]) (own_Ret s (K_rm_law  Z h0 n0 p1 p2 p3 p4) room_1.cells room_1.slots)
  have hrf := own_spec hu hn
  generalize (own_plans ((un).toInt64) cd) = rf at hrf ⊢
  refine own_lstore X1 hx (Ls' := #[.val (.int p1), .val (.int p2), .val (.int p3), .val (.int p4), .val (.int un), .val (.int cd), .val (.long rf), .second, .unset, .unset, .unset]) (pc' := 27) rfl (hb hby at_25) rfl ?_
  refine own_iloadN X1 hx (pc' := 28) rfl (hb hby at_27) rfl ?_
  refine own_i2l X1 hx (v := ((p1).toInt64)) (pc' := 29) rfl (hb hby at_28) rfl ?_
  refine own_lstore X1 hx (Ls' := #[.val (.int p1), .val (.int p2), .val (.int p3), .val (.int p4), .val (.int un), .val (.int cd), .val (.long rf), .second, .val (.long ((p1).toInt64)), .second, .unset]) (pc' := 31) rfl (hb hby at_29) rfl ?_
  refine own_iloadN X1 hx (pc' := 32) rfl (hb hby at_31) rfl ?_
  refine own_iconst X1 hx (v := (1 : Int32)) (pc' := 33) rfl (hb hby at_32) rfl ?_
  refine own_iand X1 hx (v := (p4 &&& (1 : Int32))) (pc' := 34) rfl (hb hby at_33) rfl ?_
  by_cases c34_2 : (p4 &&& (1 : Int32)) = 0
  · refine own_ifT X1 hx (pc' := 59) (hb hby at_34) (XT.i0_eq_t c34_2) (by decide) (by decide) ?_
    have hm : ((p1).toInt64).toInt ≤ 2 ^ 31 := own_m1 p1
    generalize ((p1).toInt64) = mo at hm ⊢
    refine own_lload X1 hx (pc' := 61) rfl (hb hby at_59) rfl ?_
    refine own_lload X1 hx (pc' := 63) rfl (hb hby at_61) rfl ?_
    refine own_lcmp X1 hx (pc' := 64) rfl (hb hby at_63) ?_
    by_cases c64_3 : rf < mo
    · refine own_ifF X1 hx (pc' := 67) rfl (hb hby at_64) (XT.ll_ge_f c64_3) ?_
      refine own_iconst X1 hx (v := (1 : Int32)) (pc' := 68) rfl (hb hby at_67) rfl ?_
      refine own_goto X1 hx (pc' := 72) (hb hby at_68) (by decide) (by decide) ?_
      refine own_istore X1 hx (Ls' := #[.val (.int p1), .val (.int p2), .val (.int p3), .val (.int p4), .val (.int un), .val (.int cd), .val (.long rf), .second, .val (.long mo), .second, .val (.int (1 : Int32))]) (pc' := 74) rfl (hb hby at_72) rfl ?_
      refine own_lload X1 hx (pc' := 76) rfl (hb hby at_74) rfl ?_
      refine own_iload X1 hx (pc' := 78) rfl (hb hby at_76) rfl ?_
      refine own_iload X1 hx (pc' := 80) rfl (hb hby at_78) rfl ?_
      refine own_callS X1 hx hZ (y := (⟨"com/example/tranchery/tranchery/solve/ShareSearch$Plan", "fewerThan", "(JII)Z"⟩ : MethodName)) hown (hw _ (List.mem_of_getElem? (i := 8) rfl)) (hw _ (List.mem_of_getElem? (i := 9) rfl)) (hw _ (List.mem_of_getElem? (i := 10) rfl)) (hw _ (List.mem_of_getElem? (i := 11) rfl))  (by decide) (rm_few l Z a0 hw [] n mo un cd h0 n0 Z0 hu hm hn) (by decide) (W := 0) (by decide) (by decide) (by decide) e1 (by rw [hml]; rfl) (argsL := [(.long mo), (.int un), (.int cd)]) (rest := []) rfl (lenOf pd__JII_Z rfl) rfl (Nat.le_of_eq rfl) (pc' := 83) rfl (hb hby at_80) ?_
      rintro _ T4 L4 X4 ⟨rfl, N4, e4⟩
      have M4 := Fr.app M1 N4
      show own_Goes p e below T4 (mkF m 83 #[.val (.int p1), .val (.int p2), .val (.int p3), .val (.int p4), .val (.int un), .val (.int cd), .val (.long rf), .second, .val (.long mo), .second, .val (.int (1 : Int32))] [(.int (own_few n un.toInt mo.toInt))]) (own_Ret s (K_rm_law  Z h0 n0 p1 p2 p3 p4) room_1.cells room_1.slots)
      refine own_iload X4 hx (pc' := 85) rfl (hb hby at_83) rfl ?_
      refine own_icmpF X4 hx (pc' := 88) rfl (hb hby at_85) (XT.ii_ne_f (own_e1 ((hrf.1 mo hm).mp c64_3))) ?_
      refine own_iconst X4 hx (v := (1 : Int32)) (pc' := 89) rfl (hb hby at_88) rfl ?_
      refine own_goto X4 hx (pc' := 93) (hb hby at_89) (by decide) (by decide) ?_
      refine own_zret X4 hx hlk hret (by simp) (hb hby at_93) (by decide) (by decide) ?_
      rw [e4]
      exact ⟨rfl, M4⟩
    · refine own_ifT X1 hx (pc' := 71) (hb hby at_64) (XT.ll_ge_t c64_3) (by decide) (by decide) ?_
      refine own_iconst X1 hx (v := (0 : Int32)) (pc' := 72) rfl (hb hby at_71) rfl ?_
      refine own_istore X1 hx (Ls' := #[.val (.int p1), .val (.int p2), .val (.int p3), .val (.int p4), .val (.int un), .val (.int cd), .val (.long rf), .second, .val (.long mo), .second, .val (.int (0 : Int32))]) (pc' := 74) rfl (hb hby at_72) rfl ?_
      refine own_lload X1 hx (pc' := 76) rfl (hb hby at_74) rfl ?_
      refine own_iload X1 hx (pc' := 78) rfl (hb hby at_76) rfl ?_
      refine own_iload X1 hx (pc' := 80) rfl (hb hby at_78) rfl ?_
      refine own_callS X1 hx hZ (y := (⟨"com/example/tranchery/tranchery/solve/ShareSearch$Plan", "fewerThan", "(JII)Z"⟩ : MethodName)) hown (hw _ (List.mem_of_getElem? (i := 8) rfl)) (hw _ (List.mem_of_getElem? (i := 9) rfl)) (hw _ (List.mem_of_getElem? (i := 10) rfl)) (hw _ (List.mem_of_getElem? (i := 11) rfl))  (by decide) (rm_few l Z a0 hw [] n mo un cd h0 n0 Z0 hu hm hn) (by decide) (W := 0) (by decide) (by decide) (by decide) e1 (by rw [hml]; rfl) (argsL := [(.long mo), (.int un), (.int cd)]) (rest := []) rfl (lenOf pd__JII_Z rfl) rfl (Nat.le_of_eq rfl) (pc' := 83) rfl (hb hby at_80) ?_
      rintro _ T5 L5 X5 ⟨rfl, N5, e5⟩
      have M5 := Fr.app M1 N5
      show own_Goes p e below T5 (mkF m 83 #[.val (.int p1), .val (.int p2), .val (.int p3), .val (.int p4), .val (.int un), .val (.int cd), .val (.long rf), .second, .val (.long mo), .second, .val (.int (0 : Int32))] [(.int (own_few n un.toInt mo.toInt))]) (own_Ret s (K_rm_law  Z h0 n0 p1 p2 p3 p4) room_1.cells room_1.slots)
      refine own_iload X5 hx (pc' := 85) rfl (hb hby at_83) rfl ?_
      refine own_icmpF X5 hx (pc' := 88) rfl (hb hby at_85) (XT.ii_ne_f (own_e0 (fun z => c64_3 ((hrf.1 mo hm).mpr z)))) ?_
      refine own_iconst X5 hx (v := (1 : Int32)) (pc' := 89) rfl (hb hby at_88) rfl ?_
      refine own_goto X5 hx (pc' := 93) (hb hby at_89) (by decide) (by decide) ?_
      refine own_zret X5 hx hlk hret (by simp) (hb hby at_93) (by decide) (by decide) ?_
      rw [e5]
      exact ⟨rfl, M5⟩
  · refine own_ifF X1 hx (pc' := 37) rfl (hb hby at_34) (XT.i0_eq_f c34_2) ?_
    refine own_lload X1 hx (pc' := 39) rfl (hb hby at_37) rfl ?_
    refine own_ldc2_w X1 hx hZ hown (hw _ (List.mem_of_getElem? (i := 7) rfl)) (pc' := 42) rfl (hb hby at_39) ?_
    refine own_lcmp X1 hx (pc' := 43) rfl (hb hby at_42) ?_
    by_cases c43_6 : rf < (2147483647 : Int64)
    · refine own_ifF X1 hx (pc' := 46) rfl (hb hby at_43) (XT.ll_ge_f c43_6) ?_
      refine own_lload X1 hx (pc' := 48) rfl (hb hby at_46) rfl ?_
      refine own_iloadN X1 hx (pc' := 49) rfl (hb hby at_48) rfl ?_
      refine own_iconst X1 hx (v := (1 : Int32)) (pc' := 50) rfl (hb hby at_49) rfl ?_
      refine own_iushr X1 hx (v := (XT.ushr p4 (1 : Int32))) (pc' := 51) rfl (hb hby at_50) rfl ?_
      refine own_iconst X1 hx (v := (3 : Int32)) (pc' := 52) rfl (hb hby at_51) rfl ?_
      refine own_irem X1 hx (v := ((XT.ushr p4 (1 : Int32)) % (3 : Int32))) (pc' := 53) rfl (hb hby at_52) (by decide) rfl ?_
      refine own_i2l X1 hx (v := ((((XT.ushr p4 (1 : Int32)) % (3 : Int32))).toInt64)) (pc' := 54) rfl (hb hby at_53) rfl ?_
      refine own_ladd X1 hx (v := (rf + ((((XT.ushr p4 (1 : Int32)) % (3 : Int32))).toInt64))) (pc' := 55) rfl (hb hby at_54) rfl ?_
      refine own_lconst X1 hx (v := (1 : Int64)) (pc' := 56) rfl (hb hby at_55) rfl ?_
      refine own_lsub X1 hx (v := ((rf + ((((XT.ushr p4 (1 : Int32)) % (3 : Int32))).toInt64)) - (1 : Int64))) (pc' := 57) rfl (hb hby at_56) rfl ?_
      refine own_lstore X1 hx (Ls' := #[.val (.int p1), .val (.int p2), .val (.int p3), .val (.int p4), .val (.int un), .val (.int cd), .val (.long rf), .second, .val (.long ((rf + ((((XT.ushr p4 (1 : Int32)) % (3 : Int32))).toInt64)) - (1 : Int64))), .second, .unset]) (pc' := 59) rfl (hb hby at_57) rfl ?_
      have hm : ((rf + ((((XT.ushr p4 (1 : Int32)) % (3 : Int32))).toInt64)) - (1 : Int64)).toInt ≤ 2 ^ 31 := own_m2 p4 c43_6 hrf.2
      generalize ((rf + ((((XT.ushr p4 (1 : Int32)) % (3 : Int32))).toInt64)) - (1 : Int64)) = mo at hm ⊢
      refine own_lload X1 hx (pc' := 61) rfl (hb hby at_59) rfl ?_
      refine own_lload X1 hx (pc' := 63) rfl (hb hby at_61) rfl ?_
      refine own_lcmp X1 hx (pc' := 64) rfl (hb hby at_63) ?_
      by_cases c64_7 : rf < mo
      · refine own_ifF X1 hx (pc' := 67) rfl (hb hby at_64) (XT.ll_ge_f c64_7) ?_
        refine own_iconst X1 hx (v := (1 : Int32)) (pc' := 68) rfl (hb hby at_67) rfl ?_
        refine own_goto X1 hx (pc' := 72) (hb hby at_68) (by decide) (by decide) ?_
        refine own_istore X1 hx (Ls' := #[.val (.int p1), .val (.int p2), .val (.int p3), .val (.int p4), .val (.int un), .val (.int cd), .val (.long rf), .second, .val (.long mo), .second, .val (.int (1 : Int32))]) (pc' := 74) rfl (hb hby at_72) rfl ?_
        refine own_lload X1 hx (pc' := 76) rfl (hb hby at_74) rfl ?_
        refine own_iload X1 hx (pc' := 78) rfl (hb hby at_76) rfl ?_
        refine own_iload X1 hx (pc' := 80) rfl (hb hby at_78) rfl ?_
        refine own_callS X1 hx hZ (y := (⟨"com/example/tranchery/tranchery/solve/ShareSearch$Plan", "fewerThan", "(JII)Z"⟩ : MethodName)) hown (hw _ (List.mem_of_getElem? (i := 8) rfl)) (hw _ (List.mem_of_getElem? (i := 9) rfl)) (hw _ (List.mem_of_getElem? (i := 10) rfl)) (hw _ (List.mem_of_getElem? (i := 11) rfl))  (by decide) (rm_few l Z a0 hw [] n mo un cd h0 n0 Z0 hu hm hn) (by decide) (W := 0) (by decide) (by decide) (by decide) e1 (by rw [hml]; rfl) (argsL := [(.long mo), (.int un), (.int cd)]) (rest := []) rfl (lenOf pd__JII_Z rfl) rfl (Nat.le_of_eq rfl) (pc' := 83) rfl (hb hby at_80) ?_
        rintro _ T8 L8 X8 ⟨rfl, N8, e8⟩
        have M8 := Fr.app M1 N8
        show own_Goes p e below T8 (mkF m 83 #[.val (.int p1), .val (.int p2), .val (.int p3), .val (.int p4), .val (.int un), .val (.int cd), .val (.long rf), .second, .val (.long mo), .second, .val (.int (1 : Int32))] [(.int (own_few n un.toInt mo.toInt))]) (own_Ret s (K_rm_law  Z h0 n0 p1 p2 p3 p4) room_1.cells room_1.slots)
        refine own_iload X8 hx (pc' := 85) rfl (hb hby at_83) rfl ?_
        refine own_icmpF X8 hx (pc' := 88) rfl (hb hby at_85) (XT.ii_ne_f (own_e1 ((hrf.1 mo hm).mp c64_7))) ?_
        refine own_iconst X8 hx (v := (1 : Int32)) (pc' := 89) rfl (hb hby at_88) rfl ?_
        refine own_goto X8 hx (pc' := 93) (hb hby at_89) (by decide) (by decide) ?_
        refine own_zret X8 hx hlk hret (by simp) (hb hby at_93) (by decide) (by decide) ?_
        rw [e8]
        exact ⟨rfl, M8⟩
      · refine own_ifT X1 hx (pc' := 71) (hb hby at_64) (XT.ll_ge_t c64_7) (by decide) (by decide) ?_
        refine own_iconst X1 hx (v := (0 : Int32)) (pc' := 72) rfl (hb hby at_71) rfl ?_
        refine own_istore X1 hx (Ls' := #[.val (.int p1), .val (.int p2), .val (.int p3), .val (.int p4), .val (.int un), .val (.int cd), .val (.long rf), .second, .val (.long mo), .second, .val (.int (0 : Int32))]) (pc' := 74) rfl (hb hby at_72) rfl ?_
        refine own_lload X1 hx (pc' := 76) rfl (hb hby at_74) rfl ?_
        refine own_iload X1 hx (pc' := 78) rfl (hb hby at_76) rfl ?_
        refine own_iload X1 hx (pc' := 80) rfl (hb hby at_78) rfl ?_
        refine own_callS X1 hx hZ (y := (⟨"com/example/tranchery/tranchery/solve/ShareSearch$Plan", "fewerThan", "(JII)Z"⟩ : MethodName)) hown (hw _ (List.mem_of_getElem? (i := 8) rfl)) (hw _ (List.mem_of_getElem? (i := 9) rfl)) (hw _ (List.mem_of_getElem? (i := 10) rfl)) (hw _ (List.mem_of_getElem? (i := 11) rfl))  (by decide) (rm_few l Z a0 hw [] n mo un cd h0 n0 Z0 hu hm hn) (by decide) (W := 0) (by decide) (by decide) (by decide) e1 (by rw [hml]; rfl) (argsL := [(.long mo), (.int un), (.int cd)]) (rest := []) rfl (lenOf pd__JII_Z rfl) rfl (Nat.le_of_eq rfl) (pc' := 83) rfl (hb hby at_80) ?_
        rintro _ T9 L9 X9 ⟨rfl, N9, e9⟩
        have M9 := Fr.app M1 N9
        show own_Goes p e below T9 (mkF m 83 #[.val (.int p1), .val (.int p2), .val (.int p3), .val (.int p4), .val (.int un), .val (.int cd), .val (.long rf), .second, .val (.long mo), .second, .val (.int (0 : Int32))] [(.int (own_few n un.toInt mo.toInt))]) (own_Ret s (K_rm_law  Z h0 n0 p1 p2 p3 p4) room_1.cells room_1.slots)
        refine own_iload X9 hx (pc' := 85) rfl (hb hby at_83) rfl ?_
        refine own_icmpF X9 hx (pc' := 88) rfl (hb hby at_85) (XT.ii_ne_f (own_e0 (fun z => c64_7 ((hrf.1 mo hm).mpr z)))) ?_
        refine own_iconst X9 hx (v := (1 : Int32)) (pc' := 89) rfl (hb hby at_88) rfl ?_
        refine own_goto X9 hx (pc' := 93) (hb hby at_89) (by decide) (by decide) ?_
        refine own_zret X9 hx hlk hret (by simp) (hb hby at_93) (by decide) (by decide) ?_
        rw [e9]
        exact ⟨rfl, M9⟩
    · refine own_ifT X1 hx (pc' := 59) (hb hby at_43) (XT.ll_ge_t c43_6) (by decide) (by decide) ?_
      have hm : ((p1).toInt64).toInt ≤ 2 ^ 31 := own_m1 p1
      generalize ((p1).toInt64) = mo at hm ⊢
      refine own_lload X1 hx (pc' := 61) rfl (hb hby at_59) rfl ?_
      refine own_lload X1 hx (pc' := 63) rfl (hb hby at_61) rfl ?_
      refine own_lcmp X1 hx (pc' := 64) rfl (hb hby at_63) ?_
      by_cases c64_10 : rf < mo
      · refine own_ifF X1 hx (pc' := 67) rfl (hb hby at_64) (XT.ll_ge_f c64_10) ?_
        refine own_iconst X1 hx (v := (1 : Int32)) (pc' := 68) rfl (hb hby at_67) rfl ?_
        refine own_goto X1 hx (pc' := 72) (hb hby at_68) (by decide) (by decide) ?_
        refine own_istore X1 hx (Ls' := #[.val (.int p1), .val (.int p2), .val (.int p3), .val (.int p4), .val (.int un), .val (.int cd), .val (.long rf), .second, .val (.long mo), .second, .val (.int (1 : Int32))]) (pc' := 74) rfl (hb hby at_72) rfl ?_
        refine own_lload X1 hx (pc' := 76) rfl (hb hby at_74) rfl ?_
        refine own_iload X1 hx (pc' := 78) rfl (hb hby at_76) rfl ?_
        refine own_iload X1 hx (pc' := 80) rfl (hb hby at_78) rfl ?_
        refine own_callS X1 hx hZ (y := (⟨"com/example/tranchery/tranchery/solve/ShareSearch$Plan", "fewerThan", "(JII)Z"⟩ : MethodName)) hown (hw _ (List.mem_of_getElem? (i := 8) rfl)) (hw _ (List.mem_of_getElem? (i := 9) rfl)) (hw _ (List.mem_of_getElem? (i := 10) rfl)) (hw _ (List.mem_of_getElem? (i := 11) rfl))  (by decide) (rm_few l Z a0 hw [] n mo un cd h0 n0 Z0 hu hm hn) (by decide) (W := 0) (by decide) (by decide) (by decide) e1 (by rw [hml]; rfl) (argsL := [(.long mo), (.int un), (.int cd)]) (rest := []) rfl (lenOf pd__JII_Z rfl) rfl (Nat.le_of_eq rfl) (pc' := 83) rfl (hb hby at_80) ?_
        rintro _ T11 L11 X11 ⟨rfl, N11, e11⟩
        have M11 := Fr.app M1 N11
        show own_Goes p e below T11 (mkF m 83 #[.val (.int p1), .val (.int p2), .val (.int p3), .val (.int p4), .val (.int un), .val (.int cd), .val (.long rf), .second, .val (.long mo), .second, .val (.int (1 : Int32))] [(.int (own_few n un.toInt mo.toInt))]) (own_Ret s (K_rm_law  Z h0 n0 p1 p2 p3 p4) room_1.cells room_1.slots)
        refine own_iload X11 hx (pc' := 85) rfl (hb hby at_83) rfl ?_
        refine own_icmpF X11 hx (pc' := 88) rfl (hb hby at_85) (XT.ii_ne_f (own_e1 ((hrf.1 mo hm).mp c64_10))) ?_
        refine own_iconst X11 hx (v := (1 : Int32)) (pc' := 89) rfl (hb hby at_88) rfl ?_
        refine own_goto X11 hx (pc' := 93) (hb hby at_89) (by decide) (by decide) ?_
        refine own_zret X11 hx hlk hret (by simp) (hb hby at_93) (by decide) (by decide) ?_
        rw [e11]
        exact ⟨rfl, M11⟩
      · refine own_ifT X1 hx (pc' := 71) (hb hby at_64) (XT.ll_ge_t c64_10) (by decide) (by decide) ?_
        refine own_iconst X1 hx (v := (0 : Int32)) (pc' := 72) rfl (hb hby at_71) rfl ?_
        refine own_istore X1 hx (Ls' := #[.val (.int p1), .val (.int p2), .val (.int p3), .val (.int p4), .val (.int un), .val (.int cd), .val (.long rf), .second, .val (.long mo), .second, .val (.int (0 : Int32))]) (pc' := 74) rfl (hb hby at_72) rfl ?_
        refine own_lload X1 hx (pc' := 76) rfl (hb hby at_74) rfl ?_
        refine own_iload X1 hx (pc' := 78) rfl (hb hby at_76) rfl ?_
        refine own_iload X1 hx (pc' := 80) rfl (hb hby at_78) rfl ?_
        refine own_callS X1 hx hZ (y := (⟨"com/example/tranchery/tranchery/solve/ShareSearch$Plan", "fewerThan", "(JII)Z"⟩ : MethodName)) hown (hw _ (List.mem_of_getElem? (i := 8) rfl)) (hw _ (List.mem_of_getElem? (i := 9) rfl)) (hw _ (List.mem_of_getElem? (i := 10) rfl)) (hw _ (List.mem_of_getElem? (i := 11) rfl))  (by decide) (rm_few l Z a0 hw [] n mo un cd h0 n0 Z0 hu hm hn) (by decide) (W := 0) (by decide) (by decide) (by decide) e1 (by rw [hml]; rfl) (argsL := [(.long mo), (.int un), (.int cd)]) (rest := []) rfl (lenOf pd__JII_Z rfl) rfl (Nat.le_of_eq rfl) (pc' := 83) rfl (hb hby at_80) ?_
        rintro _ T12 L12 X12 ⟨rfl, N12, e12⟩
        have M12 := Fr.app M1 N12
        show own_Goes p e below T12 (mkF m 83 #[.val (.int p1), .val (.int p2), .val (.int p3), .val (.int p4), .val (.int un), .val (.int cd), .val (.long rf), .second, .val (.long mo), .second, .val (.int (0 : Int32))] [(.int (own_few n un.toInt mo.toInt))]) (own_Ret s (K_rm_law  Z h0 n0 p1 p2 p3 p4) room_1.cells room_1.slots)
        refine own_iload X12 hx (pc' := 85) rfl (hb hby at_83) rfl ?_
        refine own_icmpF X12 hx (pc' := 88) rfl (hb hby at_85) (XT.ii_ne_f (own_e0 (fun z => c64_10 ((hrf.1 mo hm).mpr z)))) ?_
        refine own_iconst X12 hx (v := (1 : Int32)) (pc' := 89) rfl (hb hby at_88) rfl ?_
        refine own_goto X12 hx (pc' := 93) (hb hby at_89) (by decide) (by decide) ?_
        refine own_zret X12 hx hlk hret (by simp) (hb hby at_93) (by decide) (by decide) ?_
        rw [e12]
        exact ⟨rfl, M12⟩
set_option maxRecDepth 65536 in
set_option maxHeartbeats 40000000 in
theorem comes_1 {Post : Tables → Env → Array Value → State → Outcome → State → Prop} (hpost : ∀ tb e args s v u, (limb_1_1.after args s (.returned v) u = true ∧ limb_1_2.after args s (.returned v) u = true ∧ True) → FrameEnd s (.returned v) u (Jvm.fieldLocs frame_1_writes args s ++ Jvm.arrayLocs frame_1_arrays args s ++ Jvm.staticLocs frame_1_statics s) 0 0 → Post tb e args s (.returned v) u) :
    ArmFor flags0 classFile x code maxLocals ret World_1 tables_1 room_1 Calls_1 rest_1 Pre_1 Post := by
  intro l hfl _ _ p e ha hc hk s m args below hf hA hF happ hP
  obtain ⟨hcalls, hrest, hpre⟩ := hP
  obtain ⟨-, -, -, hnamed, -, -, -, hat⟩ := (Spec.applies_iff hf).mp happ
  obtain ⟨hg, hn⟩ := and_e (Cond.before_iff.mp (show (Jvm.Cond.and given_1 narrow_1).before args s = true from hpre))
  obtain ⟨h1, hg1⟩ := and_e hg
  obtain ⟨w0, w1, w2, w3, rfl⟩ : ∃ w0 w1 w2 w3 : Value, args = #[w0, w1, w2, w3] := by
    have hs : args.size = 4 := by simpa [Cond.value, given_1] using h1
    obtain ⟨L⟩ := args
    match L, hs with
    | [w0, w1, w2, w3], _ => exact ⟨w0, w1, w2, w3, rfl⟩
  have hw := fun d (hd : d ∈ tables_1) => atoms_spec (ws := Jvm.Cond.code x code maxLocals ret :: tables_1) hat d (List.mem_cons_of_mem _ hd)
  have hfit : Fit s := fun {y c} hc i hi => by
    obtain ⟨ha, rfl⟩ := Array.getElem?_eq_some_iff.mp hc
    have q := List.all_eq_true.mp ((Array.all_eq_true_iff_forall_mem.mp hF) _ (Array.getElem_mem ha)) i (List.mem_range.mpr hi)
    simpa [Array.getElem?_eq_getElem hi] using q
  obtain ⟨q0, hg2⟩ := and_e hg1
  obtain ⟨i0, ee0⟩ := is_v q0
  obtain rfl : w0 = (.int i0) := Option.some.inj ee0
  obtain ⟨q1, hg3⟩ := and_e hg2
  obtain ⟨i1, ee1⟩ := is_v q1
  obtain rfl : w1 = (.int i1) := Option.some.inj ee1
  obtain ⟨q2, hg4⟩ := and_e hg3
  obtain ⟨i2, ee2⟩ := is_v q2
  obtain rfl : w2 = (.int i2) := Option.some.inj ee2
  obtain ⟨i3, ee3⟩ := is_v hg4
  obtain rfl : w3 = (.int i3) := Option.some.inj ee3
  obtain ⟨n, o, h1, h2, h3, _, L, rfl, ⟨rfl, N⟩, hq⟩ := rm_law l s _ hw tables_1  i0 i1 i2 i3 s.heap s.heap.size (Nat.le_refl _) p e ha hc hk s m _ below hf ((Spec.applies_iff_loose hf).mp happ).1 ⟨rfl, State.Warmed39.refl s, rfl⟩ trivial
  refine ⟨n, _, h1, h2, h3, hpost _ _ _ _ _ _ ⟨Cond.after_iff.mpr rfl, Cond.after_iff.mpr (eq_i res_at (Term.int_eval (1)) rfl), trivial⟩ ⟨hq.1, hq.2.1, (hq.2.2.sift fun y hy => Or.inr (N y hy)).mono (by decide) (by decide)⟩⟩
theorem main_1_1 : Claimed_1_1 := comes_1 fun _ _ _ _ _ _ h hF => ⟨h.1, hF⟩
theorem main_1_2 : Claimed_1_2 := comes_1 fun _ _ _ _ _ _ h hF => ⟨h.2.1, hF⟩
end Jvm.Pilot.@@N@@
namespace Jvm.Pilot.@@N@@
open Jvm Jvm.ClassFile Sem Op Lib Jvm.Free Jvm.Stand Jvm.Pilot.@@N@@.Jvm.D
/-! MADE BY PROGRAM (witnessworld.py) out of the Statement's table words and the real class files: 10 classes; the members and pool entries that the words name. The judged class is class 1, her method 2. -/
namespace start1
open Jvm.ClassFile
def u (s : String) : CpInfo := .utf8 (stringToUtf16 s)
/-- a pool by its gaps: so many unusable entries, then the entry; so many at the end -/
def gap : Nat → List CpInfo → List CpInfo
  | 0, r => r
  | n + 1, r => .unusable :: gap n r
def poolList (es : List (Nat × CpInfo)) (last : Nat) : List CpInfo := es.foldr (fun e r => gap e.1 (e.2 :: r)) (gap last [])
def pool (es : List (Nat × CpInfo)) (last : Nat) : Array CpInfo := ⟨poolList es last⟩
def fileOf (pool : Array CpInfo) (this : Nat) (attrs : Array Attribute := #[]) (ms : Array MethodInfo := #[]) (fl : Nat := 33) (sup : Nat := 0) (ifs : Array Nat := #[]) (fds : Array FieldInfo := #[]) : ClassFile where
  minorVersion := 0
  majorVersion := 65
  constantPool := pool
  accessFlags := fl
  thisClass := this
  superClass := sup
  interfaces := ifs
  fields := fds
  methods := ms
  attributes := attrs
def plain (name : String) (sup : Option ClassId) : Class where
  name := name
  kind := .ordinary
  loader := none
  accessFlags := 33
  super := sup
  interfaces := #[]
  cf := none
  fields := #[]
  methods := #[]
  instanceTypes := #[]
  staticTypes := #[]
  resolved := #[]
  callSites := []
  init := .initialized
  statics := none
  mirror := none

def pool0 : Array CpInfo := pool [(5, u "<init>"), (0, u "()V"), (1, .class_ 10), (1, u "java/lang/Object")] 113

def k0m0 : Method := { name := "<init>", desc := "()V", sig := { parameters := [], returnType := none }, accessFlags := 1, code := none }
/-- java/lang/Object -/
def k0 : Class := { plain "java/lang/Object" none with
  accessFlags := 33
  interfaces := #[]
  cf := some (fileOf pool0 8 #[] #[{ accessFlags := 1, nameIndex := 5, descriptorIndex := 6, attributes := #[] }] 33 0 #[] #[])
  fields := #[]
  methods := #[k0m0]
  instanceTypes := #[]
  staticTypes := #[]
  resolved := Array.replicate 124 none
  statics := none }

def pool1 : Array CpInfo := pool [(2, .class_ 4), (1, u "java/lang/Object"), (0, u "<init>"), (0, u "()V"), (0, .long 2), (1, .long 4096), (1, .class_ 12), (0, u "com/example/tranchery/tranchery/solve/PlanFewerThanPinLaw"), (0, .long 1099511627776), (1, .long 3), (1, .long 6), (1, .long 1024), (1, .long 4), (1, .long 24), (1, .long 256), (1, .long 5), (1, .long 120), (1, .integer 1073741823), (0, .integer 2147483647), (0, .methodref 11 34), (0, .nameAndType 35 36), (0, u "plans"), (0, u "(JI)J"), (0, .long 2147483647), (1, .methodref 40 41), (0, .class_ 42), (0, .nameAndType 43 44), (0, u "com/example/tranchery/tranchery/solve/ShareSearch$Plan"), (0, u "fewerThan"), (0, u "(JII)Z"), (0, u "BIG"), (0, u "J"), (4, u "law"), (0, u "(IIII)Z")] 6

def k1m0 : Method := { name := "<init>", desc := "()V", sig := { parameters := [], returnType := none }, accessFlags := 1, code := none }
def k1c1 : Code := { maxStack := 6, maxLocals := 3, code := method_2_code, exceptionTable := #[], attributes := #[] }
def k1m1 : Method := { name := "plans", desc := "(JI)J", sig := { parameters := [.long, .int], returnType := some .long }, accessFlags := 10, code := some k1c1 }
def k1c2 : Code := { maxStack := 4, maxLocals := 11, code := code, exceptionTable := #[], attributes := #[] }
def k1m2 : Method := { name := "law", desc := "(IIII)Z", sig := { parameters := [.int, .int, .int, .int], returnType := some .boolean }, accessFlags := 9, code := some k1c2 }
/-- com/example/tranchery/tranchery/solve/PlanFewerThanPinLaw -/
def k1 : Class := { plain "com/example/tranchery/tranchery/solve/PlanFewerThanPinLaw" (some 0) with
  accessFlags := 49
  interfaces := #[]
  cf := some (fileOf pool1 11 #[] #[{ accessFlags := 1, nameIndex := 5, descriptorIndex := 6, attributes := #[] }, { accessFlags := 10, nameIndex := 35, descriptorIndex := 36, attributes := #[] }, { accessFlags := 9, nameIndex := 51, descriptorIndex := 52, attributes := #[] }] 49 2 #[] #[{ accessFlags := 26, nameIndex := 45, descriptorIndex := 46, attributes := #[] }])
  fields := #[{ name := "BIG", type := .long, accessFlags := 26, slot := 0, constantValue := 0 }]
  methods := #[k1m0, k1m1, k1m2]
  instanceTypes := #[]
  staticTypes := #[.long]
  resolved := Array.replicate 59 none
  statics := none }

def pool2 : Array CpInfo := pool [(2, .class_ 4), (1, u "java/lang/Object"), (0, u "<init>"), (0, u "()V"), (0, .class_ 8), (0, u "java/lang/Record")] 13

def k2m0 : Method := { name := "<init>", desc := "()V", sig := { parameters := [], returnType := none }, accessFlags := 4, code := none }
/-- java/lang/Record -/
def k2 : Class := { plain "java/lang/Record" (some 0) with
  accessFlags := 1057
  interfaces := #[]
  cf := some (fileOf pool2 7 #[] #[{ accessFlags := 4, nameIndex := 5, descriptorIndex := 6, attributes := #[] }] 1057 2 #[] #[])
  fields := #[]
  methods := #[k2m0]
  instanceTypes := #[]
  staticTypes := #[]
  resolved := Array.replicate 22 none
  statics := none }

def pool3 : Array CpInfo := pool [(2, .class_ 4), (1, u "java/lang/Record"), (3, .class_ 10), (1, u "com/example/tranchery/tranchery/solve/ShareSearch$Plan"), (0, u "units"), (0, u "[I"), (53, u "fewerThan"), (0, u "(JII)Z"), (13, .class_ 82), (0, u "com/example/tranchery/tranchery/solve/ShareSearch")] 21

def k3c0 : Code := { maxStack := 4, maxLocals := 7, code := prog_79_method_3_code, exceptionTable := #[], attributes := #[] }
def k3m0 : Method := { name := "fewerThan", desc := "(JII)Z", sig := { parameters := [.long, .int, .int], returnType := some .boolean }, accessFlags := 8, code := some k3c0 }
/-- com/example/tranchery/tranchery/solve/ShareSearch$Plan -/
def k3 : Class := { plain "com/example/tranchery/tranchery/solve/ShareSearch$Plan" (some 2) with
  accessFlags := 48
  interfaces := #[]
  cf := some (fileOf pool3 8 #[.nestHost 81] #[{ accessFlags := 8, nameIndex := 66, descriptorIndex := 67, attributes := #[] }] 48 2 #[] #[{ accessFlags := 18, nameIndex := 11, descriptorIndex := 12, attributes := #[] }])
  fields := #[{ name := "units", type := (.array .int), accessFlags := 18, slot := 0, constantValue := 0 }]
  methods := #[k3m0]
  instanceTypes := #[(.array .int)]
  staticTypes := #[]
  resolved := Array.replicate 104 none
  statics := none }

def pool4 : Array CpInfo := pool [(1, u "java/lang/Cloneable"), (0, .class_ 1), (0, u "java/lang/Object"), (0, .class_ 3)] 3

/-- java/lang/Cloneable -/
def k4 : Class := { plain "java/lang/Cloneable" (some 0) with
  accessFlags := 1537
  interfaces := #[]
  cf := some (fileOf pool4 2 #[] #[] 1537 4 #[] #[])
  fields := #[]
  methods := #[]
  instanceTypes := #[]
  staticTypes := #[]
  resolved := Array.replicate 8 none
  statics := none }

def pool5 : Array CpInfo := pool [(1, u "java/io/Serializable"), (0, .class_ 1), (0, u "java/lang/Object"), (0, .class_ 3)] 3

/-- java/io/Serializable -/
def k5 : Class := { plain "java/io/Serializable" (some 0) with
  accessFlags := 1537
  interfaces := #[]
  cf := some (fileOf pool5 2 #[] #[] 1537 4 #[] #[])
  fields := #[]
  methods := #[]
  instanceTypes := #[]
  staticTypes := #[]
  resolved := Array.replicate 8 none
  statics := none }

/-- the primitive byte -/
def k6 : Class := { plain "byte" none with kind := .primitive 'B', accessFlags := 0x411 }
/-- [B -/
def k7 : Class := { plain "[B" (some 0) with kind := .array 6 .byte, interfaces := #[4, 5], accessFlags := 1041 }

/-- the primitive int -/
def k8 : Class := { plain "int" none with kind := .primitive 'I', accessFlags := 0x411 }
/-- [I -/
def k9 : Class := { plain "[I" (some 0) with kind := .array 8 .int, interfaces := #[4, 5], accessFlags := 1041 }

def heap : Heap := #[]
def classes : Array Class := #[k0, k1, k2, k3, k4, k5, k6, k7, k8, k9]
def interned : List (Array UInt16 × Addr) := []
def slotsUsed : Nat := 0
def theMethod : MethodId := ⟨1, 2⟩
def args0 : Array Value := #[.int 5, .int 7, .int 9, .int 11]
def aboutOver (below : List Frame) : State where
  vm := { classes := classes, interned := interned.toArray }
  heap := heap
  slotsUsed := slotsUsed
  threads := #[{ frames := .invoking theMethod args0 :: below }]
def below0 : List Frame := [.native { method := ⟨0, 0⟩, args := #[] }]
def about1 : State := aboutOver below0
def p0 : Program := .bare "" "" ""
def e0 : Env := launch0.env 0 0 0
theorem w_frames : about1.frames = Frame.invoking theMethod args0 :: below0 := rfl
set_option maxRecDepth 65536 in
theorem w_args : argsFit about1.vm theMethod args0 = true := by decide +kernel
set_option maxRecDepth 65536 in
theorem w_heap : heapFits about1 = true := by decide +kernel
set_option maxRecDepth 65536 in
theorem w_runnable : about1.curStatus? = some .runnable := by decide +kernel
set_option maxRecDepth 65536 in
theorem w_alone : about1.alone = true := by decide +kernel
set_option maxRecDepth 65536 in
theorem w_named : about1.methodNamed? x = some theMethod := by decide +kernel
set_option maxRecDepth 65536 in
theorem w_hears : about1.hears theMethod below0 = true := by decide +kernel
set_option maxRecDepth 65536 in
theorem w_ripe : about1.ripe theMethod args0 below0 = true := by decide +kernel
theorem w_running : about1.status = .running := rfl
set_option maxRecDepth 65536 in
theorem w_room : about1.hasRoom e0.platform room_1 = true :=
  launch0.hasRoom_least _ room_1 (by decide +kernel) (by decide +kernel) (by decide +kernel) (by decide +kernel) (by decide +kernel) (by decide +kernel)
theorem allAtoms_all (ts : List Jvm.Cond) (a : Array Jvm.Value) (st : Jvm.State) : (allAtoms ts).before a st = ts.all (fun c => c.before a st) := by
  induction ts with
  | nil => rfl
  | cons c t ih =>
    show (Jvm.Cond.and c (allAtoms t)).before a st = _
    rw [Jvm.Cond.before_and, ih, List.all_cons]
def words1 : List Jvm.Cond := Jvm.Cond.code x code maxLocals ret :: tables_1
/-- a 'code' word, met by the world's own term for the bytes: nothing is compared byte by byte -/
theorem code_word {y : MethodName} {bytes : ByteArray} {mx : Nat} {rt : Option FieldType} {a : Array Value} {s : State} {m : MethodId} {meth : Method} {c : Code} (h1 : s.methodNamed? y = some m) (h2 : s.vm.method? m = some meth) (h3 : meth.code = some c) (h4 : c.code = bytes)
    (h5 : (c.maxLocals == mx && c.exceptionTable.isEmpty && decide (c.maxStack ≤ mostOperands) && decide (meth.sig.returnType = rt) && !meth.locks && decide (parseMethodDescriptor y.desc = some meth.sig)) = true) : (Jvm.Cond.code y bytes mx rt).before a s = true := by
  simp only [Bool.and_eq_true, beq_iff_eq, Bool.not_eq_true', decide_eq_true_eq] at h5
  obtain ⟨⟨⟨⟨⟨g1, g2⟩, g3⟩, g4⟩, g5⟩, g6⟩ := h5
  simp [Cond.before, Cond.holds, Cond.value, h1, h2, h3, h4, g1, g2, g3, g4, g5, g6]
def isCode : Jvm.Cond → Bool
  | .code _ _ _ _ => true
  | _ => false
theorem all_split {L : List Jvm.Cond} {P : Jvm.Cond → Bool} (h1 : L.all (fun c => isCode c || P c) = true) (h2 : ∀ c ∈ L.filter isCode, P c = true) : L.all P = true := by
  refine List.all_eq_true.mpr fun c hc => ?_
  have h := List.all_eq_true.mp h1 c hc
  rcases Bool.eq_false_or_eq_true (isCode c) with hi | hi
  · exact h2 c (List.mem_filter.mpr ⟨hc, hi⟩)
  · simpa [hi] using h
set_option maxRecDepth 65536 in
theorem w_c0 : (Jvm.Cond.code x code maxLocals ret).before args0 about1 = true := code_word (m := ⟨1, 2⟩) (meth := k1m2) (c := k1c2) (by decide +kernel) rfl rfl rfl (by decide +kernel)
set_option maxRecDepth 65536 in
theorem w_c1 : (Jvm.Cond.code ({ cls := "com/example/tranchery/tranchery/solve/PlanFewerThanPinLaw", name := "plans", desc := "(JI)J" } : Jvm.MethodName) method_2_code (3 : Nat) (Option.some Jvm.ClassFile.FieldType.long)).before args0 about1 = true := code_word (m := ⟨1, 1⟩) (meth := k1m1) (c := k1c1) (by decide +kernel) rfl rfl rfl (by decide +kernel)
set_option maxRecDepth 65536 in
theorem w_c2 : (Jvm.Cond.code ({ cls := "com/example/tranchery/tranchery/solve/ShareSearch$Plan", name := "fewerThan", desc := "(JII)Z" } : Jvm.MethodName) prog_79_method_3_code (7 : Nat) (Option.some Jvm.ClassFile.FieldType.boolean)).before args0 about1 = true := code_word (m := ⟨3, 0⟩) (meth := k3m0) (c := k3c0) (by decide +kernel) rfl rfl rfl (by decide +kernel)
def codes1 : List Jvm.Cond := [Jvm.Cond.code x code maxLocals ret, Jvm.Cond.code ({ cls := "com/example/tranchery/tranchery/solve/PlanFewerThanPinLaw", name := "plans", desc := "(JI)J" } : Jvm.MethodName) method_2_code (3 : Nat) (Option.some Jvm.ClassFile.FieldType.long), Jvm.Cond.code ({ cls := "com/example/tranchery/tranchery/solve/ShareSearch$Plan", name := "fewerThan", desc := "(JII)Z" } : Jvm.MethodName) prog_79_method_3_code (7 : Nat) (Option.some Jvm.ClassFile.FieldType.boolean)]
set_option maxRecDepth 65536 in
theorem codes_eq : words1.filter isCode = codes1 := rfl
theorem w_codes : ∀ c ∈ words1.filter isCode, c.before args0 about1 = true := by
  rw [codes_eq]
  intro c hc
  simp only [codes1, List.mem_cons, List.not_mem_nil, or_false] at hc
  rcases hc with rfl | rfl | rfl
  · exact w_c0
  · exact w_c1
  · exact w_c2
set_option maxRecDepth 65536 in
theorem w_t1 : words1.all (fun c => isCode c || c.before args0 about1) = true := by decide +kernel
theorem w_tables : (allAtoms (Jvm.Cond.code x code maxLocals ret :: tables_1)).before args0 about1 = true := by
  rw [allAtoms_all]
  show words1.all (fun c => c.before args0 about1) = true
  refine all_split ?_ w_codes
  rw [w_t1]
set_option maxRecDepth 65536 in
theorem w_case : (Jvm.Cond.and given_1 narrow_1).before args0 about1 = true := by decide +kernel
theorem w_applies : (headSpec (Jvm.Cond.code x code maxLocals ret :: tables_1) room_1).applies x e0.platform about1 = true :=
  (Spec.applies_iff w_frames).mpr ⟨w_running, w_runnable, w_alone, w_named, w_hears, w_ripe, w_room, w_tables⟩
theorem atStart : AtStart classFile x code maxLocals ret World_1 tables_1 room_1 Calls_1 rest_1 Pre_1 launch0 p0 e0 about1 theMethod args0 below0 :=
  ⟨lists_1, trivial, launch0.admits_env _ _ _, launch0.least_env, fairChoices_fair.cas, fairChoices_fair.clock, w_frames, w_args, w_heap, w_applies, trivial, trivial, w_case⟩
end start1
theorem witness_1 : WitnessClaimed_1 := ⟨start1.p0, start1.e0, start1.about1, start1.theMethod, start1.args0, start1.below0, start1.atStart⟩
end Jvm.Pilot.@@N@@
