import JvmDerived
import JvmDerived.Pilot.@@N@@Statement
import JvmDerived.Pilot.@@N@@Code
set_option linter.unusedVariables false
set_option linter.unusedSimpArgs false
@@BLOCK:NumsL.lean.txt@@
namespace Jvm.Pilot.@@N@@
open Jvm Jvm.ClassFile Sem Op Lib Jvm.Free Jvm.Stand Jvm.LawKit Jvm.RoadKit Bundle Jvm.Pilot.@@N@@.Jvm.D
/-! 1. OWN: a walk in continuation style: 'own_Goes': from this frame the run comes back with an outcome of which Q holds -/
def own_Goes (p : Program) (e : Env) (below : List Frame) (T : State) (F : JFrame) (Q : Outcome → State → Prop) : Prop := ∃ s₂ o, Steps p.tables e below (T.setTop F) s₂ ∧ s₂.status = .running ∧ Ended s₂ below o ∧ Q o s₂
def own_Ret (s : State) (K : Option Value → Heap → List Loc → Prop) (rc rs : Nat) (o : Outcome) (U' : State) : Prop := ∃ v L, o = .returned v ∧ K v U'.heap L ∧ FrameEnd s o U' L rc rs
def own_upd (f : Nat → Value) (k : Nat) (v : Value) : Nat → Value := fun i => if i = k then v else f i
/-- an array of n places at a; place j holds f j -/
def own_Arr (Z : State) (h : Heap) (a : Addr) (ty : FieldType) (n : Nat) (f : Nat → Value) : Prop := ∃ c : Cell, Arr Z h a c ty ∧ c.slots.size = n ∧ n < 2 ^ 31 ∧ ∀ j, j < n → c.slots[j]? = some (f j)
section Own
variable {p : Program} {l : Launch} {e : Env} {R : Room} {s : State} {m : MethodId} {args : Array Value} {below : List Frame} {meth : Method} {c : Code} {T : State} {locs : List Loc} {cells slots : Nat} {Z : State} {a0 : Array Value} {h h' : Heap} {Q : Outcome → State → Prop} {Ls Ls' : Array Slot} {st : List Value} {pc pc' : Nat}
theorem own_step {T' : State} {F F' : JFrame} (k : ∀ t, Steps p.tables e below (T'.setTop F') t → Steps p.tables e below (T.setTop F) t) (q : own_Goes p e below T' F' Q) : own_Goes p e below T F Q := by
  obtain ⟨s2, o, h1, h2⟩ := q
  exact ⟨s2, o, k _ h1, h2⟩
theorem own_body {y : MethodName} {bytes : ByteArray} {maxL : Nat} {rt : Option FieldType} {ws : List Jvm.Cond} {rm : Room} {as : Array Value} {h0 : Heap} {K : Option Value → Heap → List Loc → Prop} (hpl : plainFor y = true)
    (body : ∀ (p : Program) (e : Env) (s : State) (m : MethodId) (below : List Frame) (meth : Method) (c : Code) (s₁ : State), p.tables.exec = Jvm.exec → c.code = bytes → c.maxLocals = maxL → s.vm.findClass y.cls = some m.cls → meth.name = y.name → meth.sig.returnType = rt → meth.locks = false → Z.Warmed39 s.vm →
      Stand p l e rm s m as below meth c s₁ [] 0 0 → s₁.heap = h0 → own_Goes p e below s₁ (entryFrame m as maxL) (own_Ret s K rm.cells rm.slots)) :
    MetFree l y (head1 (Jvm.Cond.code y bytes maxL rt :: ws) rm) (fun a U => a = as ∧ Z.Warmed39 U.vm ∧ U.heap = h0) (fun _ _ _ _ _ => True) (fun _ U o U' => ∃ v L, o = .returned v ∧ K v U'.heap L ∧ FrameEnd U o U' L rm.cells rm.slots) := by
  refine MetFree.of_bodySF hpl hisR ?_
  intro p e s m args below meth c s₁ Bd hml0 hP hK
  obtain ⟨rfl, hZ, hh⟩ := hP
  exact body p e s m below meth c s₁ Bd.exec Bd.bytes hml0 (findClass_of_methodNamed Bd.named) (name_of_methodNamed Bd.named Bd.method).1 Bd.returns Bd.notSynchronized hZ (Stand.of_body Bd) (by rw [← hh, Bd.state]; rfl)
theorem own_iload (X : Stand p l e R s m args below meth c T locs cells slots) (hx : p.tables.exec = Jvm.exec) {k : Nat} {v : Int32} (hp : pc + 2 = pc') (hd : decode c.code pc = .ok (.iload k, 2)) (hl : Ls[k]? = some (.val (.int v))) (k : own_Goes p e below T (mkF m pc' Ls (.int v :: st)) Q) : own_Goes p e below T (mkF m pc Ls st) Q := by
  subst hp; exact own_step (fun _ q => XS.iload X.here hx rfl hd hl q) k
theorem own_iloadN (X : Stand p l e R s m args below meth c T locs cells slots) (hx : p.tables.exec = Jvm.exec) {k : Fin 4} {v : Int32} (hp : pc + 1 = pc') (hd : decode c.code pc = .ok (.iload_n k, 1)) (hl : Ls[k.val]? = some (.val (.int v))) (k : own_Goes p e below T (mkF m pc' Ls (.int v :: st)) Q) : own_Goes p e below T (mkF m pc Ls st) Q := by
  subst hp; exact own_step (fun _ q => XS.iloadN X.here hx rfl hd hl q) k
theorem own_istore (X : Stand p l e R s m args below meth c T locs cells slots) (hx : p.tables.exec = Jvm.exec) {k : Nat} {v : Int32} (hp : pc + 2 = pc') (hd : decode c.code pc = .ok (.istore k, 2)) (hl : storeLocals Ls k (.int v) = some Ls') (k : own_Goes p e below T (mkF m pc' Ls' st) Q) : own_Goes p e below T (mkF m pc Ls (.int v :: st)) Q := by
  subst hp; exact own_step (fun _ q => XS.istore X.here hx rfl hd rfl hl q) k
theorem own_istoreN (X : Stand p l e R s m args below meth c T locs cells slots) (hx : p.tables.exec = Jvm.exec) {k : Fin 4} {v : Int32} (hp : pc + 1 = pc') (hd : decode c.code pc = .ok (.istore_n k, 1)) (hl : storeLocals Ls k.val (.int v) = some Ls') (k : own_Goes p e below T (mkF m pc' Ls' st) Q) : own_Goes p e below T (mkF m pc Ls (.int v :: st)) Q := by
  subst hp; exact own_step (fun _ q => XS.istoreN X.here hx rfl hd rfl hl q) k
theorem own_lload (X : Stand p l e R s m args below meth c T locs cells slots) (hx : p.tables.exec = Jvm.exec) {k : Nat} {v : Int64} (hp : pc + 2 = pc') (hd : decode c.code pc = .ok (.lload k, 2)) (hl : Ls[k]? = some (.val (.long v))) (k : own_Goes p e below T (mkF m pc' Ls (.long v :: st)) Q) : own_Goes p e below T (mkF m pc Ls st) Q := by
  subst hp; exact own_step (fun _ q => XT.lload X.here hx rfl hd hl q) k
theorem own_lloadN (X : Stand p l e R s m args below meth c T locs cells slots) (hx : p.tables.exec = Jvm.exec) {k : Fin 4} {v : Int64} (hp : pc + 1 = pc') (hd : decode c.code pc = .ok (.lload_n k, 1)) (hl : Ls[k.val]? = some (.val (.long v))) (k : own_Goes p e below T (mkF m pc' Ls (.long v :: st)) Q) : own_Goes p e below T (mkF m pc Ls st) Q := by
  subst hp; exact own_step (fun _ q => XT.lloadN X.here hx rfl hd hl q) k
theorem own_lstore (X : Stand p l e R s m args below meth c T locs cells slots) (hx : p.tables.exec = Jvm.exec) {k : Nat} {v : Int64} (hp : pc + 2 = pc') (hd : decode c.code pc = .ok (.lstore k, 2)) (hl : storeLocals Ls k (.long v) = some Ls') (k : own_Goes p e below T (mkF m pc' Ls' st) Q) : own_Goes p e below T (mkF m pc Ls (.long v :: st)) Q := by
  subst hp; exact own_step (fun _ q => XT.lstore X.here hx rfl hd rfl hl q) k
theorem own_lstoreN (X : Stand p l e R s m args below meth c T locs cells slots) (hx : p.tables.exec = Jvm.exec) {k : Fin 4} {v : Int64} (hp : pc + 1 = pc') (hd : decode c.code pc = .ok (.lstore_n k, 1)) (hl : storeLocals Ls k.val (.long v) = some Ls') (k : own_Goes p e below T (mkF m pc' Ls' st) Q) : own_Goes p e below T (mkF m pc Ls (.long v :: st)) Q := by
  subst hp; exact own_step (fun _ q => XT.lstoreN X.here hx rfl hd rfl hl q) k
theorem own_aload (X : Stand p l e R s m args below meth c T locs cells slots) (hx : p.tables.exec = Jvm.exec) {k : Nat} {v : Value} (hp : pc + 2 = pc') (hd : decode c.code pc = .ok (.aload k, 2)) (hl : Ls[k]? = some (.val v)) (hv : v.isRef = true) (k : own_Goes p e below T (mkF m pc' Ls (v :: st)) Q) : own_Goes p e below T (mkF m pc Ls st) Q := by
  subst hp; exact own_step (fun _ q => XS.aload X.here hx rfl hd hl hv q) k
theorem own_aloadN (X : Stand p l e R s m args below meth c T locs cells slots) (hx : p.tables.exec = Jvm.exec) {k : Fin 4} {v : Value} (hp : pc + 1 = pc') (hd : decode c.code pc = .ok (.aload_n k, 1)) (hl : Ls[k.val]? = some (.val v)) (hv : v.isRef = true) (k : own_Goes p e below T (mkF m pc' Ls (v :: st)) Q) : own_Goes p e below T (mkF m pc Ls st) Q := by
  subst hp; exact own_step (fun _ q => XS.aloadN X.here hx rfl hd hl hv q) k
theorem own_astore (X : Stand p l e R s m args below meth c T locs cells slots) (hx : p.tables.exec = Jvm.exec) {k : Nat} {v : Value} (hp : pc + 2 = pc') (hd : decode c.code pc = .ok (.astore k, 2)) (hv : v.isRef = true) (hl : storeLocals Ls k v = some Ls') (k : own_Goes p e below T (mkF m pc' Ls' st) Q) : own_Goes p e below T (mkF m pc Ls (v :: st)) Q := by
  subst hp; exact own_step (fun _ q => XS.astore X.here hx rfl hd rfl hv hl q) k
theorem own_astoreN (X : Stand p l e R s m args below meth c T locs cells slots) (hx : p.tables.exec = Jvm.exec) {k : Fin 4} {v : Value} (hp : pc + 1 = pc') (hd : decode c.code pc = .ok (.astore_n k, 1)) (hv : v.isRef = true) (hl : storeLocals Ls k.val v = some Ls') (k : own_Goes p e below T (mkF m pc' Ls' st) Q) : own_Goes p e below T (mkF m pc Ls (v :: st)) Q := by
  subst hp; exact own_step (fun _ q => XS.astoreN X.here hx rfl hd rfl hv hl q) k
theorem own_iconst (X : Stand p l e R s m args below meth c T locs cells slots) (hx : p.tables.exec = Jvm.exec) {i : Int} {v : Int32} (hp : pc + 1 = pc') (hd : decode c.code pc = .ok (.iconst i, 1)) (hv : Int32.ofInt i = v) (k : own_Goes p e below T (mkF m pc' Ls (.int v :: st)) Q) : own_Goes p e below T (mkF m pc Ls st) Q := by
  subst hp; subst hv; exact own_step (fun _ q => XS.iconst X.here hx rfl hd  q) k
theorem own_bipush (X : Stand p l e R s m args below meth c T locs cells slots) (hx : p.tables.exec = Jvm.exec) {i : Int} {v : Int32} (hp : pc + 2 = pc') (hd : decode c.code pc = .ok (.bipush i, 2)) (hv : (Int8.ofInt i).toInt32 = v) (k : own_Goes p e below T (mkF m pc' Ls (.int v :: st)) Q) : own_Goes p e below T (mkF m pc Ls st) Q := by
  subst hp; subst hv; exact own_step (fun _ q => XS.bipush X.here hx rfl hd  q) k
theorem own_sipush (X : Stand p l e R s m args below meth c T locs cells slots) (hx : p.tables.exec = Jvm.exec) {i : Int} {v : Int32} (hp : pc + 3 = pc') (hd : decode c.code pc = .ok (.sipush i, 3)) (hv : (Int16.ofInt i).toInt32 = v) (k : own_Goes p e below T (mkF m pc' Ls (.int v :: st)) Q) : own_Goes p e below T (mkF m pc Ls st) Q := by
  subst hp; subst hv; exact own_step (fun _ q => XS.sipush X.here hx rfl hd  q) k
theorem own_lconst (X : Stand p l e R s m args below meth c T locs cells slots) (hx : p.tables.exec = Jvm.exec) {i : Fin 2} {v : Int64} (hp : pc + 1 = pc') (hd : decode c.code pc = .ok (.lconst i, 1)) (hv : Int64.ofNat i = v) (k : own_Goes p e below T (mkF m pc' Ls (.long v :: st)) Q) : own_Goes p e below T (mkF m pc Ls st) Q := by
  subst hp; subst hv; exact own_step (fun _ q => XT.lconst X.here hx rfl hd  q) k
theorem own_anull (X : Stand p l e R s m args below meth c T locs cells slots) (hx : p.tables.exec = Jvm.exec)  (hp : pc + 1 = pc') (hd : decode c.code pc = .ok (.aconst_null, 1))  (k : own_Goes p e below T (mkF m pc' Ls (.null :: st)) Q) : own_Goes p e below T (mkF m pc Ls st) Q := by
  subst hp; exact own_step (fun _ q => XS.aconstNull X.here hx rfl hd  q) k
theorem own_iadd (X : Stand p l e R s m args below meth c T locs cells slots) (hx : p.tables.exec = Jvm.exec) {x y v : Int32} (hp : pc + 1 = pc') (hd : decode c.code pc = .ok (.iadd, 1)) (hv : x + y = v) (k : own_Goes p e below T (mkF m pc' Ls (.int v :: st)) Q) : own_Goes p e below T (mkF m pc Ls (.int y :: .int x :: st)) Q := by
  subst hp; subst hv; exact own_step (fun _ q => XS.iadd X.here hx rfl hd rfl q) k
theorem own_isub (X : Stand p l e R s m args below meth c T locs cells slots) (hx : p.tables.exec = Jvm.exec) {x y v : Int32} (hp : pc + 1 = pc') (hd : decode c.code pc = .ok (.isub, 1)) (hv : x - y = v) (k : own_Goes p e below T (mkF m pc' Ls (.int v :: st)) Q) : own_Goes p e below T (mkF m pc Ls (.int y :: .int x :: st)) Q := by
  subst hp; subst hv; exact own_step (fun _ q => XS.isub X.here hx rfl hd rfl q) k
theorem own_imul (X : Stand p l e R s m args below meth c T locs cells slots) (hx : p.tables.exec = Jvm.exec) {x y v : Int32} (hp : pc + 1 = pc') (hd : decode c.code pc = .ok (.imul, 1)) (hv : x * y = v) (k : own_Goes p e below T (mkF m pc' Ls (.int v :: st)) Q) : own_Goes p e below T (mkF m pc Ls (.int y :: .int x :: st)) Q := by
  subst hp; subst hv; exact own_step (fun _ q => XS.imul X.here hx rfl hd rfl q) k
theorem own_iand (X : Stand p l e R s m args below meth c T locs cells slots) (hx : p.tables.exec = Jvm.exec) {x y v : Int32} (hp : pc + 1 = pc') (hd : decode c.code pc = .ok (.iand, 1)) (hv : x &&& y = v) (k : own_Goes p e below T (mkF m pc' Ls (.int v :: st)) Q) : own_Goes p e below T (mkF m pc Ls (.int y :: .int x :: st)) Q := by
  subst hp; subst hv; exact own_step (fun _ q => XS.iand X.here hx rfl hd rfl q) k
theorem own_ior (X : Stand p l e R s m args below meth c T locs cells slots) (hx : p.tables.exec = Jvm.exec) {x y v : Int32} (hp : pc + 1 = pc') (hd : decode c.code pc = .ok (.ior, 1)) (hv : x ||| y = v) (k : own_Goes p e below T (mkF m pc' Ls (.int v :: st)) Q) : own_Goes p e below T (mkF m pc Ls (.int y :: .int x :: st)) Q := by
  subst hp; subst hv; exact own_step (fun _ q => XT.ior X.here hx rfl hd rfl q) k
theorem own_ixor (X : Stand p l e R s m args below meth c T locs cells slots) (hx : p.tables.exec = Jvm.exec) {x y v : Int32} (hp : pc + 1 = pc') (hd : decode c.code pc = .ok (.ixor, 1)) (hv : x ^^^ y = v) (k : own_Goes p e below T (mkF m pc' Ls (.int v :: st)) Q) : own_Goes p e below T (mkF m pc Ls (.int y :: .int x :: st)) Q := by
  subst hp; subst hv; exact own_step (fun _ q => XT.ixor X.here hx rfl hd rfl q) k
theorem own_ishl (X : Stand p l e R s m args below meth c T locs cells slots) (hx : p.tables.exec = Jvm.exec) {x y v : Int32} (hp : pc + 1 = pc') (hd : decode c.code pc = .ok (.ishl, 1)) (hv : x <<< (y &&& 31) = v) (k : own_Goes p e below T (mkF m pc' Ls (.int v :: st)) Q) : own_Goes p e below T (mkF m pc Ls (.int y :: .int x :: st)) Q := by
  subst hp; subst hv; exact own_step (fun _ q => XT.ishl X.here hx rfl hd rfl q) k
theorem own_ishr (X : Stand p l e R s m args below meth c T locs cells slots) (hx : p.tables.exec = Jvm.exec) {x y v : Int32} (hp : pc + 1 = pc') (hd : decode c.code pc = .ok (.ishr, 1)) (hv : x >>> (y &&& 31) = v) (k : own_Goes p e below T (mkF m pc' Ls (.int v :: st)) Q) : own_Goes p e below T (mkF m pc Ls (.int y :: .int x :: st)) Q := by
  subst hp; subst hv; exact own_step (fun _ q => XT.ishr X.here hx rfl hd rfl q) k
theorem own_iushr (X : Stand p l e R s m args below meth c T locs cells slots) (hx : p.tables.exec = Jvm.exec) {x y v : Int32} (hp : pc + 1 = pc') (hd : decode c.code pc = .ok (.iushr, 1)) (hv : XT.ushr x y = v) (k : own_Goes p e below T (mkF m pc' Ls (.int v :: st)) Q) : own_Goes p e below T (mkF m pc Ls (.int y :: .int x :: st)) Q := by
  subst hp; subst hv; exact own_step (fun _ q => XT.iushr X.here hx rfl hd rfl q) k
theorem own_idiv (X : Stand p l e R s m args below meth c T locs cells slots) (hx : p.tables.exec = Jvm.exec) {x y v : Int32} (hp : pc + 1 = pc') (hd : decode c.code pc = .ok (.idiv, 1)) (hy : y ≠ 0) (hv : x / y = v) (k : own_Goes p e below T (mkF m pc' Ls (.int v :: st)) Q) : own_Goes p e below T (mkF m pc Ls (.int y :: .int x :: st)) Q := by
  subst hp; subst hv; exact own_step (fun _ q => XS.idiv X.here hx rfl hd rfl hy q) k
theorem own_irem (X : Stand p l e R s m args below meth c T locs cells slots) (hx : p.tables.exec = Jvm.exec) {x y v : Int32} (hp : pc + 1 = pc') (hd : decode c.code pc = .ok (.irem, 1)) (hy : y ≠ 0) (hv : x % y = v) (k : own_Goes p e below T (mkF m pc' Ls (.int v :: st)) Q) : own_Goes p e below T (mkF m pc Ls (.int y :: .int x :: st)) Q := by
  subst hp; subst hv; exact own_step (fun _ q => iremM X hx rfl hd rfl hy q) k
theorem own_ladd (X : Stand p l e R s m args below meth c T locs cells slots) (hx : p.tables.exec = Jvm.exec) {x y v : Int64} (hp : pc + 1 = pc') (hd : decode c.code pc = .ok (.ladd, 1)) (hv : x + y = v) (k : own_Goes p e below T (mkF m pc' Ls (.long v :: st)) Q) : own_Goes p e below T (mkF m pc Ls (.long y :: .long x :: st)) Q := by
  subst hp; subst hv; exact own_step (fun _ q => XT.ladd X.here hx rfl hd rfl q) k
theorem own_lsub (X : Stand p l e R s m args below meth c T locs cells slots) (hx : p.tables.exec = Jvm.exec) {x y v : Int64} (hp : pc + 1 = pc') (hd : decode c.code pc = .ok (.lsub, 1)) (hv : x - y = v) (k : own_Goes p e below T (mkF m pc' Ls (.long v :: st)) Q) : own_Goes p e below T (mkF m pc Ls (.long y :: .long x :: st)) Q := by
  subst hp; subst hv; exact own_step (fun _ q => XT.lsub X.here hx rfl hd rfl q) k
theorem own_lmul (X : Stand p l e R s m args below meth c T locs cells slots) (hx : p.tables.exec = Jvm.exec) {x y v : Int64} (hp : pc + 1 = pc') (hd : decode c.code pc = .ok (.lmul, 1)) (hv : x * y = v) (k : own_Goes p e below T (mkF m pc' Ls (.long v :: st)) Q) : own_Goes p e below T (mkF m pc Ls (.long y :: .long x :: st)) Q := by
  subst hp; subst hv; exact own_step (fun _ q => XT.lmul X.here hx rfl hd rfl q) k
theorem own_land (X : Stand p l e R s m args below meth c T locs cells slots) (hx : p.tables.exec = Jvm.exec) {x y v : Int64} (hp : pc + 1 = pc') (hd : decode c.code pc = .ok (.land, 1)) (hv : x &&& y = v) (k : own_Goes p e below T (mkF m pc' Ls (.long v :: st)) Q) : own_Goes p e below T (mkF m pc Ls (.long y :: .long x :: st)) Q := by
  subst hp; subst hv; exact own_step (fun _ q => XT.land X.here hx rfl hd rfl q) k
theorem own_lor (X : Stand p l e R s m args below meth c T locs cells slots) (hx : p.tables.exec = Jvm.exec) {x y v : Int64} (hp : pc + 1 = pc') (hd : decode c.code pc = .ok (.lor, 1)) (hv : x ||| y = v) (k : own_Goes p e below T (mkF m pc' Ls (.long v :: st)) Q) : own_Goes p e below T (mkF m pc Ls (.long y :: .long x :: st)) Q := by
  subst hp; subst hv; exact own_step (fun _ q => XT.lor X.here hx rfl hd rfl q) k
theorem own_lxor (X : Stand p l e R s m args below meth c T locs cells slots) (hx : p.tables.exec = Jvm.exec) {x y v : Int64} (hp : pc + 1 = pc') (hd : decode c.code pc = .ok (.lxor, 1)) (hv : x ^^^ y = v) (k : own_Goes p e below T (mkF m pc' Ls (.long v :: st)) Q) : own_Goes p e below T (mkF m pc Ls (.long y :: .long x :: st)) Q := by
  subst hp; subst hv; exact own_step (fun _ q => XT.lxor X.here hx rfl hd rfl q) k
theorem own_ldiv (X : Stand p l e R s m args below meth c T locs cells slots) (hx : p.tables.exec = Jvm.exec) {x y v : Int64} (hp : pc + 1 = pc') (hd : decode c.code pc = .ok (.ldiv, 1)) (hy : y ≠ 0) (hv : x / y = v) (k : own_Goes p e below T (mkF m pc' Ls (.long v :: st)) Q) : own_Goes p e below T (mkF m pc Ls (.long y :: .long x :: st)) Q := by
  subst hp; subst hv; exact own_step (fun _ q => XT.ldiv X.here hx rfl hd rfl hy q) k
theorem own_ineg (X : Stand p l e R s m args below meth c T locs cells slots) (hx : p.tables.exec = Jvm.exec) {x v : Int32} (hp : pc + 1 = pc') (hd : decode c.code pc = .ok (.ineg, 1)) (hv : -x = v) (k : own_Goes p e below T (mkF m pc' Ls (.int v :: st)) Q) : own_Goes p e below T (mkF m pc Ls (.int x :: st)) Q := by
  subst hp; subst hv; exact own_step (fun _ q => XS.ineg X.here hx rfl hd rfl q) k
theorem own_lneg (X : Stand p l e R s m args below meth c T locs cells slots) (hx : p.tables.exec = Jvm.exec) {x v : Int64} (hp : pc + 1 = pc') (hd : decode c.code pc = .ok (.lneg, 1)) (hv : -x = v) (k : own_Goes p e below T (mkF m pc' Ls (.long v :: st)) Q) : own_Goes p e below T (mkF m pc Ls (.long x :: st)) Q := by
  subst hp; subst hv; exact own_step (fun _ q => XT.lneg X.here hx rfl hd rfl q) k
theorem own_i2l (X : Stand p l e R s m args below meth c T locs cells slots) (hx : p.tables.exec = Jvm.exec) {x : Int32} {v : Int64} (hp : pc + 1 = pc') (hd : decode c.code pc = .ok (.i2l, 1)) (hv : x.toInt64 = v) (k : own_Goes p e below T (mkF m pc' Ls (.long v :: st)) Q) : own_Goes p e below T (mkF m pc Ls (.int x :: st)) Q := by
  subst hp; subst hv; exact own_step (fun _ q => XT.i2l X.here hx rfl hd rfl q) k
theorem own_l2i (X : Stand p l e R s m args below meth c T locs cells slots) (hx : p.tables.exec = Jvm.exec) {x : Int64} {v : Int32} (hp : pc + 1 = pc') (hd : decode c.code pc = .ok (.l2i, 1)) (hv : x.toInt32 = v) (k : own_Goes p e below T (mkF m pc' Ls (.int v :: st)) Q) : own_Goes p e below T (mkF m pc Ls (.long x :: st)) Q := by
  subst hp; subst hv; exact own_step (fun _ q => XT.l2i X.here hx rfl hd rfl q) k
theorem own_i2b (X : Stand p l e R s m args below meth c T locs cells slots) (hx : p.tables.exec = Jvm.exec) {x v : Int32} (hp : pc + 1 = pc') (hd : decode c.code pc = .ok (.i2b, 1)) (hv : x.toInt8.toInt32 = v) (k : own_Goes p e below T (mkF m pc' Ls (.int v :: st)) Q) : own_Goes p e below T (mkF m pc Ls (.int x :: st)) Q := by
  subst hp; subst hv; exact own_step (fun _ q => XT.i2b X.here hx rfl hd rfl q) k
theorem own_i2c (X : Stand p l e R s m args below meth c T locs cells slots) (hx : p.tables.exec = Jvm.exec) {x v : Int32} (hp : pc + 1 = pc') (hd : decode c.code pc = .ok (.i2c, 1)) (hv : x.toUInt32.toUInt16.toUInt32.toInt32 = v) (k : own_Goes p e below T (mkF m pc' Ls (.int v :: st)) Q) : own_Goes p e below T (mkF m pc Ls (.int x :: st)) Q := by
  subst hp; subst hv; exact own_step (fun _ q => XT.i2c X.here hx rfl hd rfl q) k
theorem own_i2s (X : Stand p l e R s m args below meth c T locs cells slots) (hx : p.tables.exec = Jvm.exec) {x v : Int32} (hp : pc + 1 = pc') (hd : decode c.code pc = .ok (.i2s, 1)) (hv : x.toInt16.toInt32 = v) (k : own_Goes p e below T (mkF m pc' Ls (.int v :: st)) Q) : own_Goes p e below T (mkF m pc Ls (.int x :: st)) Q := by
  subst hp; subst hv; exact own_step (fun _ q => XT.i2s X.here hx rfl hd rfl q) k
theorem own_lcmp (X : Stand p l e R s m args below meth c T locs cells slots) (hx : p.tables.exec = Jvm.exec) {x y : Int64} (hp : pc + 1 = pc') (hd : decode c.code pc = .ok (.lcmp, 1))  (k : own_Goes p e below T (mkF m pc' Ls (.int (XT.cmpL x y) :: st)) Q) : own_Goes p e below T (mkF m pc Ls (.long y :: .long x :: st)) Q := by
  subst hp; exact own_step (fun _ q => XT.lcmp X.here hx rfl hd rfl q) k
theorem own_iinc (X : Stand p l e R s m args below meth c T locs cells slots) (hx : p.tables.exec = Jvm.exec) {n : Nat} {i : Int} {x v : Int32} (hp : pc + 3 = pc') (hd : decode c.code pc = .ok (.iinc n i, 3)) (hl : Ls[n]? = some (.val (.int x))) (hv : x + Int32.ofInt i = v) (hl' : storeLocals Ls n (.int v) = some Ls') (k : own_Goes p e below T (mkF m pc' Ls' st) Q) : own_Goes p e below T (mkF m pc Ls st) Q := by
  subst hp; subst hv; exact own_step (fun _ q => XS.iinc X.here hx rfl hd hl hl' q) k
theorem own_dup (X : Stand p l e R s m args below meth c T locs cells slots) (hx : p.tables.exec = Jvm.exec) {x : Value} (hp : pc + 1 = pc') (hd : decode c.code pc = .ok (.dup, 1)) (hc : x.category = 1) (k : own_Goes p e below T (mkF m pc' Ls (x :: x :: st)) Q) : own_Goes p e below T (mkF m pc Ls (x :: st)) Q := by
  subst hp; exact own_step (fun _ q => XS.dup X.here hx rfl hd rfl hc q) k
theorem own_pop (X : Stand p l e R s m args below meth c T locs cells slots) (hx : p.tables.exec = Jvm.exec) {x : Value} (hp : pc + 1 = pc') (hd : decode c.code pc = .ok (.pop, 1)) (hc : x.category = 1) (k : own_Goes p e below T (mkF m pc' Ls st) Q) : own_Goes p e below T (mkF m pc Ls (x :: st)) Q := by
  subst hp; exact own_step (fun _ q => XT.pop X.here hx rfl hd rfl hc q) k
theorem own_goto (X : Stand p l e R s m args below meth c T locs cells slots) (hx : p.tables.exec = Jvm.exec) {o : Int} (hd : decode c.code pc = .ok (.goto o, 3)) (ho : 0 ≤ (pc : Int) + o) (hp : ((pc : Int) + o).toNat = pc') (k : own_Goes p e below T (mkF m pc' Ls st) Q) : own_Goes p e below T (mkF m pc Ls st) Q := own_step (fun _ q => XS.goto X.here hx rfl (pc0 := pc) (pc' := pc') rfl hd ho hp q) k
theorem own_ifT (X : Stand p l e R s m args below meth c T locs cells slots) (hx : p.tables.exec = Jvm.exec) {cd : ClassFile.Cond} {x : Int32} {o : Int} (hd : decode c.code pc = .ok (.ifCond cd o, 3)) (hc : ifCond.holds cd x = true) (ho : 0 ≤ (pc : Int) + o) (hp : ((pc : Int) + o).toNat = pc') (k : own_Goes p e below T (mkF m pc' Ls st) Q) : own_Goes p e below T (mkF m pc Ls (.int x :: st)) Q := own_step (fun _ q => XS.ifYes X.here hx rfl (pc0 := pc) (pc' := pc') rfl hd rfl hc ho hp q) k
theorem own_ifF (X : Stand p l e R s m args below meth c T locs cells slots) (hx : p.tables.exec = Jvm.exec) {cd : ClassFile.Cond} {x : Int32} {o : Int} (hp : pc + 3 = pc') (hd : decode c.code pc = .ok (.ifCond cd o, 3)) (hc : ifCond.holds cd x = false) (k : own_Goes p e below T (mkF m pc' Ls st) Q) : own_Goes p e below T (mkF m pc Ls (.int x :: st)) Q := by
  subst hp; exact own_step (fun _ q => XS.ifNo X.here hx rfl hd rfl hc q) k
theorem own_icmpT (X : Stand p l e R s m args below meth c T locs cells slots) (hx : p.tables.exec = Jvm.exec) {cd : ClassFile.Cond} {x y : Int32} {o : Int} (hd : decode c.code pc = .ok (.if_icmp cd o, 3)) (hc : if_icmp.holds cd x y = true) (ho : 0 ≤ (pc : Int) + o) (hp : ((pc : Int) + o).toNat = pc') (k : own_Goes p e below T (mkF m pc' Ls st) Q) : own_Goes p e below T (mkF m pc Ls (.int y :: .int x :: st)) Q := own_step (fun _ q => XS.icmpYes X.here hx rfl (pc0 := pc) (pc' := pc') rfl hd rfl hc ho hp q) k
theorem own_icmpF (X : Stand p l e R s m args below meth c T locs cells slots) (hx : p.tables.exec = Jvm.exec) {cd : ClassFile.Cond} {x y : Int32} {o : Int} (hp : pc + 3 = pc') (hd : decode c.code pc = .ok (.if_icmp cd o, 3)) (hc : if_icmp.holds cd x y = false) (k : own_Goes p e below T (mkF m pc' Ls st) Q) : own_Goes p e below T (mkF m pc Ls (.int y :: .int x :: st)) Q := by
  subst hp; exact own_step (fun _ q => XS.icmpNo X.here hx rfl hd rfl hc q) k
theorem own_acmpT (X : Stand p l e R s m args below meth c T locs cells slots) (hx : p.tables.exec = Jvm.exec) {cd : ClassFile.ACond} {x y : Value} {o : Int} (hd : decode c.code pc = .ok (.if_acmp cd o, 3)) (h1 : x.isRef = true) (h2 : y.isRef = true) (hc : XT.acmp cd x y = true) (ho : 0 ≤ (pc : Int) + o) (hp : ((pc : Int) + o).toNat = pc') (k : own_Goes p e below T (mkF m pc' Ls st) Q) : own_Goes p e below T (mkF m pc Ls (y :: x :: st)) Q := own_step (fun _ q => XT.acmpYes X.here hx rfl (pc0 := pc) (pc' := pc') rfl hd rfl h1 h2 hc ho hp q) k
theorem own_acmpF (X : Stand p l e R s m args below meth c T locs cells slots) (hx : p.tables.exec = Jvm.exec) {cd : ClassFile.ACond} {x y : Value} {o : Int} (hp : pc + 3 = pc') (hd : decode c.code pc = .ok (.if_acmp cd o, 3)) (h1 : x.isRef = true) (h2 : y.isRef = true) (hc : XT.acmp cd x y = false) (k : own_Goes p e below T (mkF m pc' Ls st) Q) : own_Goes p e below T (mkF m pc Ls (y :: x :: st)) Q := by
  subst hp; exact own_step (fun _ q => XT.acmpNo X.here hx rfl hd rfl h1 h2 hc q) k
theorem own_ldc (X : Stand p l e R s m args below meth c T locs cells slots) (hx : p.tables.exec = Jvm.exec) (hZ : Z.Warmed39 s.vm) {own : String} {index : Nat} {v : Int32} (hown : s.vm.findClass own = some m.cls) (w : (Jvm.Cond.constant own index v).before a0 Z = true) (hp : pc + 2 = pc') (hd : decode c.code pc = .ok (.ldc index, 2)) (k : own_Goes p e below T (mkF m pc' Ls (.int v :: st)) Q) : own_Goes p e below T (mkF m pc Ls st) Q := by
  subst hp; exact own_step (fun _ q => X.ldcI hx hown (mvT hZ w) rfl hd q) k
theorem own_ldc2_w (X : Stand p l e R s m args below meth c T locs cells slots) (hx : p.tables.exec = Jvm.exec) (hZ : Z.Warmed39 s.vm) {own : String} {index : Nat} {v : Int64} (hown : s.vm.findClass own = some m.cls) (w : (Jvm.Cond.constantLong own index v).before a0 Z = true) (hp : pc + 3 = pc') (hd : decode c.code pc = .ok (.ldc2_w index, 3)) (k : own_Goes p e below T (mkF m pc' Ls (.long v :: st)) Q) : own_Goes p e below T (mkF m pc Ls st) Q := by
  subst hp; exact own_step (fun _ q => X.ldc2J hx hown (mvT hZ w) rfl hd q) k
theorem own_retW (X : Stand p l e R s m args below meth c T locs cells slots) (hx : p.tables.exec = Jvm.exec) (hlk : meth.locks = false) {w : Option Value} (hv : meth.sig.returnType = none → w = none) {F : JFrame} (run : ∀ fs, (∀ (f : JFrame) (acts : List Action), f.method = m → f.locked = none → f.entered = [] → (doReturn e (T.setTop f) acts w).1 = T.setFrames fs) → Steps p.tables e below (T.setTop F) (T.setFrames fs)) {K : Option Value → Heap → List Loc → Prop} {rc rs : Nat} (hc : cells ≤ rc) (hs : slots ≤ rs) (hQ : K w T.heap locs) : own_Goes p e below T F (own_Ret s K rc rs) := by
  obtain ⟨fs, hr, hrun, hended, hW, hsame⟩ := X.leave (v := w) hv hlk
  exact ⟨_, _, run fs hr, hrun, hended, w, locs, rfl, hQ, ⟨_, rfl⟩, hW, hsame.mono hc hs⟩
theorem own_iret (X : Stand p l e R s m args below meth c T locs cells slots) (hx : p.tables.exec = Jvm.exec) (hlk : meth.locks = false) {z : Int32} (hret : meth.sig.returnType = some .int) (hd : decode c.code pc = .ok (.ireturn, 1)) {K : Option Value → Heap → List Loc → Prop} {rc rs : Nat} (hc : cells ≤ rc) (hs : slots ≤ rs) (hQ : K (some (.int z)) T.heap locs) : own_Goes p e below T (mkF m pc Ls (.int z :: st)) (own_Ret s K rc rs) :=
  own_retW X hx hlk (fun q => by rw [hret] at q; cases q) (fun fs hr => retOut X hx hret rfl (Or.inl ⟨rfl, Or.inl rfl, z, rfl⟩) hd hr) hc hs hQ
theorem own_zret (X : Stand p l e R s m args below meth c T locs cells slots) (hx : p.tables.exec = Jvm.exec) (hlk : meth.locks = false) {z : Int32} {t : FieldType} (hret : meth.sig.returnType = some t) (ht : t = .boolean ∨ t = .byte ∨ t = .char ∨ t = .short) (hd : decode c.code pc = .ok (.ireturn, 1)) {K : Option Value → Heap → List Loc → Prop} {rc rs : Nat} (hc : cells ≤ rc) (hs : slots ≤ rs) (hQ : K (some (.int (nar t z))) T.heap locs) : own_Goes p e below T (mkF m pc Ls (.int z :: st)) (own_Ret s K rc rs) :=
  own_retW X hx hlk (fun q => by rw [hret] at q; cases q) (fun fs hr => retN X hx hret ht hd hr) hc hs hQ
theorem own_lret (X : Stand p l e R s m args below meth c T locs cells slots) (hx : p.tables.exec = Jvm.exec) (hlk : meth.locks = false) {z : Int64} (hret : meth.sig.returnType = some .long) (hd : decode c.code pc = .ok (.lreturn, 1)) {K : Option Value → Heap → List Loc → Prop} {rc rs : Nat} (hc : cells ≤ rc) (hs : slots ≤ rs) (hQ : K (some (.long z)) T.heap locs) : own_Goes p e below T (mkF m pc Ls (.long z :: st)) (own_Ret s K rc rs) :=
  own_retW X hx hlk (fun q => by rw [hret] at q; cases q) (fun fs hr => retOut X hx hret rfl (Or.inr (Or.inl ⟨rfl, rfl, z, rfl⟩)) hd hr) hc hs hQ
theorem own_aret (X : Stand p l e R s m args below meth c T locs cells slots) (hx : p.tables.exec = Jvm.exec) (hlk : meth.locks = false) {z : Value} {t : FieldType} (hret : meth.sig.returnType = some t) (ht : t.isReference = true) (hz : z.isRef = true) (hd : decode c.code pc = .ok (.areturn, 1)) {K : Option Value → Heap → List Loc → Prop} {rc rs : Nat} (hc : cells ≤ rc) (hs : slots ≤ rs) (hQ : K (some z) T.heap locs) : own_Goes p e below T (mkF m pc Ls (z :: st)) (own_Ret s K rc rs) :=
  own_retW X hx hlk (fun q => by rw [hret] at q; cases q) (fun fs hr => retOut X hx hret (by cases t <;> simp [FieldType.isReference] at ht <;> cases z <;> simp [Value.isRef] at hz <;> rfl) (Or.inr (Or.inr (Or.inr (Or.inr ⟨rfl, ht, hz⟩)))) hd hr) hc hs hQ
theorem own_ret (X : Stand p l e R s m args below meth c T locs cells slots) (hx : p.tables.exec = Jvm.exec) (hlk : meth.locks = false) (hret : meth.sig.returnType = none) (hd : decode c.code pc = .ok (.return_, 1)) {K : Option Value → Heap → List Loc → Prop} {rc rs : Nat} (hc : cells ≤ rc) (hs : slots ≤ rs) (hQ : K none T.heap locs) : own_Goes p e below T (mkF m pc Ls []) (own_Ret s K rc rs) :=
  own_retW X hx hlk (fun _ => rfl) (fun fs hr => X.returnOut hx hret hd hr) hc hs hQ
theorem own_dload (X : Stand p l e R s m args below meth c T locs cells slots) (hx : p.tables.exec = Jvm.exec) {k : Nat} {v : UInt64} (hp : pc + 2 = pc') (hd : decode c.code pc = .ok (.dload k, 2)) (hl : Ls[k]? = some (.val (.double v))) (k : own_Goes p e below T (mkF m pc' Ls (.double v :: st)) Q) : own_Goes p e below T (mkF m pc Ls st) Q := by
  subst hp; exact own_step (fun _ q => XS.dload X.here hx rfl hd hl q) k
theorem own_dloadN (X : Stand p l e R s m args below meth c T locs cells slots) (hx : p.tables.exec = Jvm.exec) {k : Fin 4} {v : UInt64} (hp : pc + 1 = pc') (hd : decode c.code pc = .ok (.dload_n k, 1)) (hl : Ls[k.val]? = some (.val (.double v))) (k : own_Goes p e below T (mkF m pc' Ls (.double v :: st)) Q) : own_Goes p e below T (mkF m pc Ls st) Q := by
  subst hp; exact own_step (fun _ q => XS.dloadN X.here hx rfl hd hl q) k
theorem own_dstore (X : Stand p l e R s m args below meth c T locs cells slots) (hx : p.tables.exec = Jvm.exec) {k : Nat} {v : UInt64} (hp : pc + 2 = pc') (hd : decode c.code pc = .ok (.dstore k, 2)) (hl : storeLocals Ls k (.double v) = some Ls') (k : own_Goes p e below T (mkF m pc' Ls' st) Q) : own_Goes p e below T (mkF m pc Ls (.double v :: st)) Q := by
  subst hp; exact own_step (fun _ q => XS.dstore X.here hx rfl hd rfl hl q) k
theorem own_dstoreN (X : Stand p l e R s m args below meth c T locs cells slots) (hx : p.tables.exec = Jvm.exec) {k : Fin 4} {v : UInt64} (hp : pc + 1 = pc') (hd : decode c.code pc = .ok (.dstore_n k, 1)) (hl : storeLocals Ls k.val (.double v) = some Ls') (k : own_Goes p e below T (mkF m pc' Ls' st) Q) : own_Goes p e below T (mkF m pc Ls (.double v :: st)) Q := by
  subst hp; exact own_step (fun _ q => XS.dstoreN X.here hx rfl hd rfl hl q) k
theorem own_dconst0 (X : Stand p l e R s m args below meth c T locs cells slots) (hx : p.tables.exec = Jvm.exec) {v : UInt64} (hp : pc + 1 = pc') (hd : decode c.code pc = .ok (.dconst 0, 1)) (hv : FP.dconst0 = v) (k : own_Goes p e below T (mkF m pc' Ls (.double v :: st)) Q) : own_Goes p e below T (mkF m pc Ls st) Q := by
  subst hp; exact own_step (fun _ q => XS.dconst0 X.here hx rfl hd hv q) k
theorem own_dconst1 (X : Stand p l e R s m args below meth c T locs cells slots) (hx : p.tables.exec = Jvm.exec) {v : UInt64} (hp : pc + 1 = pc') (hd : decode c.code pc = .ok (.dconst 1, 1)) (hv : FP.dconst1 = v) (k : own_Goes p e below T (mkF m pc' Ls (.double v :: st)) Q) : own_Goes p e below T (mkF m pc Ls st) Q := by
  subst hp; exact own_step (fun _ q => XS.dconst1 X.here hx rfl hd hv q) k
theorem own_i2d (X : Stand p l e R s m args below meth c T locs cells slots) (hx : p.tables.exec = Jvm.exec) {x : Int32} {v : UInt64} (hp : pc + 1 = pc') (hd : decode c.code pc = .ok (.i2d, 1)) (hv : FP.i2d x = v) (k : own_Goes p e below T (mkF m pc' Ls (.double v :: st)) Q) : own_Goes p e below T (mkF m pc Ls (.int x :: st)) Q := by
  subst hp; exact own_step (fun _ q => XS.i2dS X.here hx rfl hd rfl hv q) k
theorem own_l2d (X : Stand p l e R s m args below meth c T locs cells slots) (hx : p.tables.exec = Jvm.exec) {x : Int64} {v : UInt64} (hp : pc + 1 = pc') (hd : decode c.code pc = .ok (.l2d, 1)) (hv : FP.l2d x = v) (k : own_Goes p e below T (mkF m pc' Ls (.double v :: st)) Q) : own_Goes p e below T (mkF m pc Ls (.long x :: st)) Q := by
  subst hp; exact own_step (fun _ q => XS.l2dS X.here hx rfl hd rfl hv q) k
theorem own_dneg (X : Stand p l e R s m args below meth c T locs cells slots) (hx : p.tables.exec = Jvm.exec) {x v : UInt64} (hp : pc + 1 = pc') (hd : decode c.code pc = .ok (.dneg, 1)) (hv : FP.dneg x = v) (k : own_Goes p e below T (mkF m pc' Ls (.double v :: st)) Q) : own_Goes p e below T (mkF m pc Ls (.double x :: st)) Q := by
  subst hp; exact own_step (fun _ q => XS.dnegS X.here hx rfl hd rfl hv q) k
theorem own_dcmp (X : Stand p l e R s m args below meth c T locs cells slots) (hx : p.tables.exec = Jvm.exec) {o : CmpOp} {x y : UInt64} {v : Int32} (hp : pc + 1 = pc') (hd : decode c.code pc = .ok (.dcmp o, 1)) (hv : cmpValue (FP.dcmp x y) o = v) (k : own_Goes p e below T (mkF m pc' Ls (.int v :: st)) Q) : own_Goes p e below T (mkF m pc Ls (.double y :: .double x :: st)) Q := by
  subst hp; exact own_step (fun _ q => XS.dcmpS X.here hx rfl hd rfl hv q) k
theorem own_dadd (X : Stand p l e R s m args below meth c T locs cells slots) (hx : p.tables.exec = Jvm.exec) {x y v : UInt64} (hp : pc + 1 = pc') (hd : decode c.code pc = .ok (.dadd, 1)) (hn : Jvm.Free.Fl.NoNaN64 (FP.dadd x y)) (hv : FP.dadd x y = v) (k : own_Goes p e below T (mkF m pc' Ls (.double v :: st)) Q) : own_Goes p e below T (mkF m pc Ls (.double y :: .double x :: st)) Q := by
  subst hp; exact own_step (fun _ q => XS.daddS X.here hx rfl hd rfl hn hv q) k
theorem own_dsub (X : Stand p l e R s m args below meth c T locs cells slots) (hx : p.tables.exec = Jvm.exec) {x y v : UInt64} (hp : pc + 1 = pc') (hd : decode c.code pc = .ok (.dsub, 1)) (hn : Jvm.Free.Fl.NoNaN64 (FP.dsub x y)) (hv : FP.dsub x y = v) (k : own_Goes p e below T (mkF m pc' Ls (.double v :: st)) Q) : own_Goes p e below T (mkF m pc Ls (.double y :: .double x :: st)) Q := by
  subst hp; exact own_step (fun _ q => XS.dsubS X.here hx rfl hd rfl hn hv q) k
theorem own_dmul (X : Stand p l e R s m args below meth c T locs cells slots) (hx : p.tables.exec = Jvm.exec) {x y v : UInt64} (hp : pc + 1 = pc') (hd : decode c.code pc = .ok (.dmul, 1)) (hn : Jvm.Free.Fl.NoNaN64 (FP.dmul x y)) (hv : FP.dmul x y = v) (k : own_Goes p e below T (mkF m pc' Ls (.double v :: st)) Q) : own_Goes p e below T (mkF m pc Ls (.double y :: .double x :: st)) Q := by
  subst hp; exact own_step (fun _ q => XS.dmulS X.here hx rfl hd rfl hn hv q) k
theorem own_ddiv (X : Stand p l e R s m args below meth c T locs cells slots) (hx : p.tables.exec = Jvm.exec) {x y v : UInt64} (hp : pc + 1 = pc') (hd : decode c.code pc = .ok (.ddiv, 1)) (hn : Jvm.Free.Fl.NoNaN64 (FP.ddiv x y)) (hv : FP.ddiv x y = v) (k : own_Goes p e below T (mkF m pc' Ls (.double v :: st)) Q) : own_Goes p e below T (mkF m pc Ls (.double y :: .double x :: st)) Q := by
  subst hp; exact own_step (fun _ q => XS.ddivS X.here hx rfl hd rfl hn hv q) k
theorem own_ldcD (X : Stand p l e R s m args below meth c T locs cells slots) (hx : p.tables.exec = Jvm.exec) (hZ : Z.Warmed39 s.vm) {own : String} {index : Nat} {v : UInt64} (hown : s.vm.findClass own = some m.cls) (w : (Jvm.Cond.constantDouble own index v).before a0 Z = true) (hp : pc + 3 = pc') (hd : decode c.code pc = .ok (.ldc2_w index, 3)) (k : own_Goes p e below T (mkF m pc' Ls (.double v :: st)) Q) : own_Goes p e below T (mkF m pc Ls st) Q := by
  subst hp; exact own_step (fun t q => X.ldc2DoubleC hx hown (mvT hZ w) (g := mkF m pc Ls st) rfl hd t q) k
theorem own_dret (X : Stand p l e R s m args below meth c T locs cells slots) (hx : p.tables.exec = Jvm.exec) (hlk : meth.locks = false) {z : UInt64} (hret : meth.sig.returnType = some .double) (hd : decode c.code pc = .ok (.dreturn, 1)) {K : Option Value → Heap → List Loc → Prop} {rc rs : Nat} (hc : cells ≤ rc) (hs : slots ≤ rs) (hQ : K (some (.double z)) T.heap locs) : own_Goes p e below T (mkF m pc Ls (.double z :: st)) (own_Ret s K rc rs) :=
  own_retW X hx hlk (fun q => by rw [hret] at q; cases q) (fun fs hr => retOut X hx hret rfl (Or.inr (Or.inr (Or.inl ⟨rfl, rfl, z, rfl⟩))) hd hr) hc hs hQ
theorem own_getF (X : Stand p l e R s m args below meth c T locs cells slots) (hx : p.tables.exec = Jvm.exec) (hZ : Z.Warmed39 s.vm) {own R0 O n d host : String} {index : Nat} (hown : s.vm.findClass own = some m.cls) (w : (Jvm.Cond.fieldLink own index R0 n d).before a0 Z = true ∨ (Jvm.Cond.fieldLinkNest own index R0 n d host).before a0 Z = true) (via : Via Z R0 O n d) (eT : T.heap = h) {a : Addr} {v : Value} (F : Fld Z h a O n d v) (hp : pc + 3 = pc') (hd : decode c.code pc = .ok (.getfield index, 3))
    (k : ∀ T', Stand p l e R s m args below meth c T' locs cells slots → T'.heap = h → own_Goes p e below T' (mkF m pc' Ls (v :: st)) Q) : own_Goes p e below T (mkF m pc Ls (.ref a :: st)) Q := by
  subst hp
  obtain ⟨T', X', e', stp⟩ := getF X hx hZ hown w via eT F (g := mkF m pc Ls (.ref a :: st)) rfl rfl hd
  exact own_step stp (k T' X' e')
theorem own_putF (X : Stand p l e R s m args below meth c T locs cells slots) (hx : p.tables.exec = Jvm.exec) (hZ : Z.Warmed39 s.vm) {own R0 O n d host C : String} {index kk : Nat} {ty : FieldType} (hown : s.vm.findClass own = some m.cls) (w : (Jvm.Cond.fieldLink own index R0 n d).before a0 Z = true ∨ (Jvm.Cond.fieldLinkNest own index R0 n d host).before a0 Z = true) (via : Via Z R0 O n d) (eT : T.heap = h) {a : Addr} {v old : Value} (F : Fld Z h a O n d old) (E : Exa Z h a C)
    (L : (Jvm.Cond.lays C O n d).before a0 Z = true ∨ ((Jvm.Cond.laysFinal C O n d).before a0 Z = true ∧ own = O ∧ meth.name = "<init>")) (wi : (Jvm.Cond.instantiable C kk).before a0 Z = true) (hty : parseFieldDescriptor d = some ty) (hn : narrow ty v = v) (hf : fits ty v = true) (hp : pc + 3 = pc') (hd : decode c.code pc = .ok (.putfield index, 3))
    (k : ∀ T' h', Stand p l e R s m args below meth c T' (locs ++ [⟨a, Jvm.RoadKit.slotOf Z O n d⟩]) cells slots → T'.heap = h' → Wr h h' a (Jvm.RoadKit.slotOf Z O n d) v → own_Goes p e below T' (mkF m pc' Ls st) Q) : own_Goes p e below T (mkF m pc Ls (v :: .ref a :: st)) Q := by
  subst hp
  obtain ⟨T', h', X', e', W', stp⟩ := putF X hx hZ hown w via eT F E L wi hty hn hf (g := mkF m pc Ls (v :: .ref a :: st)) rfl rfl hd
  exact own_step stp (k T' h' X' e' W')
theorem own_getS (X : Stand p l e R s m args below meth c T locs cells slots) (hx : p.tables.exec = Jvm.exec) (hZ : Z.Warmed39 s.vm) {own R0 O n d : String} {index : Nat} (hown : s.vm.findClass own = some m.cls) (w : (Jvm.Cond.fieldLink own index R0 n d).before a0 Z = true) (via : Via Z R0 O n d) (eT : T.heap = h) {v : Value} (F : Sta Z h O n d v) (hp : pc + 3 = pc') (hd : decode c.code pc = .ok (.getstatic index, 3))
    (k : ∀ T', Stand p l e R s m args below meth c T' locs cells slots → T'.heap = h → own_Goes p e below T' (mkF m pc' Ls (v :: st)) Q) : own_Goes p e below T (mkF m pc Ls st) Q := by
  subst hp
  obtain ⟨T', X', e', stp⟩ := getS X hx hZ (host := "") hown w via eT F (g := mkF m pc Ls st) rfl hd
  exact own_step stp (k T' X' e')
theorem own_new (X : Stand p l e R s m args below meth c T locs cells slots) (hx : p.tables.exec = Jvm.exec) (hZ : Z.Warmed39 s.vm) {own C : String} {index n : Nat} (hown : s.vm.findClass own = some m.cls) (w : (Jvm.Cond.classLink own index C).before a0 Z = true) (wi : (Jvm.Cond.instantiable C n).before a0 Z = true) (wz : (Jvm.Cond.initialized C).before a0 Z = true) (eT : T.heap = h) (hp : pc + 3 = pc') (hd : decode c.code pc = .ok (.new index, 3)) (hc : cells + 1 ≤ R.cells) (hl : slots + n ≤ R.slots)
    (k : ∀ T' h', Stand p l e R s m args below meth c T' locs (cells + 1) (slots + n) → T'.heap = h' → Ext h h' → Exa Z h' h.size C → (∀ {O nm d : String} {ty : FieldType}, Laid Z a0 C O nm d → parseFieldDescriptor d = some ty → Fld Z h' h.size O nm d (defaultValue ty)) → own_Goes p e below T' (mkF m pc' Ls (.ref h.size :: st)) Q) : own_Goes p e below T (mkF m pc Ls st) Q := by
  subst hp
  obtain ⟨T', h', X', e', E', A', D', -, stp⟩ := newO X hx hZ hown w wi wz eT (g := mkF m pc Ls st) rfl hd hc hl
  exact own_step stp (k T' h' X' e' E' A' D')
theorem own_initO (X : Stand p l e R s m args below meth c T locs cells slots) (hx : p.tables.exec = Jvm.exec) (hZ : Z.Warmed39 s.vm) {own : String} {idx : Nat} (hown : s.vm.findClass own = some m.cls) (w1 : (Jvm.Cond.methodLink own idx Lib.objectInit).before a0 Z = true) (w2 : (Jvm.Cond.instanceMethod Lib.objectInit).before a0 Z = true) (w3 : (Jvm.Cond.code Lib.objectInit ⟨#[0xb1]⟩ 1 none).before a0 Z = true) (eT : T.heap = h) (hsize : Ls.size = c.maxLocals) {a : Addr} (hp : pc + 3 = pc') (hd : decode c.code pc = .ok (.invokespecial idx, 3)) (hf : 1 ≤ R.frames) {W : Nat} (hW : (st.map fun v => v.category).sum ≤ W) (hl : W + 12 ≤ R.locals)
    (k : ∀ T', Stand p l e R s m args below meth c T' locs cells slots → T'.heap = h → own_Goes p e below T' (mkF m pc' Ls st) Q) : own_Goes p e below T (mkF m pc Ls (.ref a :: st)) Q := by
  subst hp
  obtain ⟨T', X', e', stp⟩ := initO X hx hZ hown w1 w2 w3 eT (g := mkF m pc Ls (.ref a :: st)) rfl hsize rfl hd hf (W := W) (by show 2 * 0 + _ ≤ _; omega) hl
  exact own_step stp (k T' X' e')
theorem own_callS (X : Stand p l e R s m args below meth c T locs cells slots) (hx : p.tables.exec = Jvm.exec) (hZ : Z.Warmed39 s.vm) {own : String} {index : Nat} {y : MethodName} {bytes : ByteArray} {maxL : Nat} {rt : Option FieldType} (hown : s.vm.findClass own = some m.cls) (w1 : (Jvm.Cond.methodLink own index y).before a0 Z = true) (w2 : (Jvm.Cond.static y).before a0 Z = true) (w3 : (Jvm.Cond.initialized y.cls).before a0 Z = true) (w4 : (Jvm.Cond.code y bytes maxL rt).before a0 Z = true) (hy : y.cls ≠ "java/lang/invoke/MethodHandle" ∧ y.cls ≠ "java/lang/invoke/VarHandle") {rm : Room} {as' : Array Value} {K : Option Value → Heap → List Loc → Prop} {W : Nat} (hM : MetFree l y (head1 [Jvm.Cond.code y bytes maxL rt] rm) (fun a U => a = as' ∧ Z.Warmed39 U.vm ∧ U.heap = h) (fun _ _ _ _ _ => True) (fun _ U o U' => ∃ v L, o = .returned v ∧ K v U'.heap L ∧ FrameEnd U o U' L rm.cells rm.slots)) (hf : rm.frames + 1 ≤ R.frames) (hl : W + (maxL + 11) + rm.locals ≤ R.locals) (hc : cells + rm.cells ≤ R.cells) (hs : slots + rm.slots ≤ R.slots) (eT : T.heap = h) (hsize : Ls.size = c.maxLocals) {argsL rest : List Value} (has : argsL.toArray = as') (hlen : ∀ sig, parseMethodDescriptor y.desc = some sig → argsL.length = sig.parameters.length) (hst : st = argsL.reverse ++ rest) (hW : (rest.map fun v => v.category).sum ≤ W) (hp : pc + 3 = pc') (hd : decode c.code pc = .ok (.invokestatic index, 3))
    (k : ∀ v T' L, Stand p l e R s m args below meth c T' (locs ++ L) (cells + rm.cells) (slots + rm.slots) → K v T'.heap L → own_Goes p e below T' (mkF m pc' Ls (v.toList ++ rest)) Q) : own_Goes p e below T (mkF m pc Ls st) Q := by
  subst hp
  obtain ⟨v, _, ⟨T', L', k', n'⟩, -, X', ⟨Lc, hQ, l1, y1, z1⟩, stp⟩ := Jvm.LawKit.callS X hx (y := y) hown (mvT hZ w1) (mvT hZ w2) (mvT hZ w3) (mvT hZ w4) hy (backOf (W := W) hM hZ w4 w3 hf hl) (g := mkF m pc Ls st) rfl hsize (argsL := argsL) (rest := rest) hlen hst (by show 2 * 0 + _ ≤ _; omega) hd (fun _ _ => ⟨has, eT, hc, hs⟩)
  dsimp only [Pt.U, Pt.locs, Pt.cells, Pt.slots] at X' l1 y1 z1 stp hQ
  subst l1 y1 z1
  exact own_step stp (k v T' Lc X' hQ)
theorem own_callC (X : Stand p l e R s m args below meth c T locs cells slots) (hx : p.tables.exec = Jvm.exec) (hZ : Z.Warmed39 s.vm) {own : String} {index : Nat} {y : MethodName} {bytes : ByteArray} {maxL : Nat} {a : Addr} (hy1 : y.name = "<init>") (hown : s.vm.findClass own = some m.cls) (w1 : (Jvm.Cond.methodLink own index y).before a0 Z = true) (w2 : (Jvm.Cond.instanceMethod y).before a0 Z = true) (w3 : (Jvm.Cond.initialized y.cls).before a0 Z = true) (w4 : (Jvm.Cond.code y bytes maxL none).before a0 Z = true) (hy : y.cls ≠ "java/lang/invoke/MethodHandle" ∧ y.cls ≠ "java/lang/invoke/VarHandle") {rm : Room} {as' : Array Value} {K : Option Value → Heap → List Loc → Prop} {W : Nat} (hM : MetFree l y (head1 [Jvm.Cond.code y bytes maxL none] rm) (fun a U => a = as' ∧ Z.Warmed39 U.vm ∧ U.heap = h) (fun _ _ _ _ _ => True) (fun _ U o U' => ∃ v L, o = .returned v ∧ K v U'.heap L ∧ FrameEnd U o U' L rm.cells rm.slots)) (hf : rm.frames + 1 ≤ R.frames) (hl : W + (maxL + 11) + rm.locals ≤ R.locals) (hc : cells + rm.cells ≤ R.cells) (hs : slots + rm.slots ≤ R.slots) (eT : T.heap = h) (hsize : Ls.size = c.maxLocals) {argsL rest : List Value} (has : (Value.ref a :: argsL).toArray = as') (hlen : ∀ sig, parseMethodDescriptor y.desc = some sig → argsL.length = sig.parameters.length) (hst : st = argsL.reverse ++ .ref a :: rest) (hW : (rest.map fun v => v.category).sum ≤ W) (hp : pc + 3 = pc') (hd : decode c.code pc = .ok (.invokespecial index, 3))
    (k : ∀ v T' L, Stand p l e R s m args below meth c T' (locs ++ L) (cells + rm.cells) (slots + rm.slots) → K v T'.heap L → own_Goes p e below T' (mkF m pc' Ls (v.toList ++ rest)) Q) : own_Goes p e below T (mkF m pc Ls st) Q := by
  subst hp
  obtain ⟨v, _, ⟨T', L', k', n'⟩, -, X', ⟨Lc, hQ, l1, y1, z1⟩, stp⟩ := X.specialBack hx (y := y) hy1 hown (mvT hZ w1) (mvT hZ w2) (mvT hZ w4) hy (backOf (W := W) hM hZ w4 w3 hf hl) (g := mkF m pc Ls st) rfl hsize (Steps.refl _) (a := a) (argsL := argsL) (rest := rest) hlen hst (by show 2 * 0 + _ ≤ _; omega) hd (fun _ _ => ⟨has, eT, hc, hs⟩)
  dsimp only [Pt.U, Pt.locs, Pt.cells, Pt.slots] at X' l1 y1 z1 stp hQ
  subst l1 y1 z1
  exact own_step (fun _ q => stp.trans q) (k v T' Lc X' hQ)
theorem own_callV (X : Stand p l e R s m args below meth c T locs cells slots) (hx : p.tables.exec = Jvm.exec) (hZ : Z.Warmed39 s.vm) {own C : String} {index : Nat} {y : MethodName} {bytes : ByteArray} {maxL : Nat} {rt : Option FieldType} {a : Addr} (hown : s.vm.findClass own = some m.cls) (w1 : (Jvm.Cond.methodLink own index y).before a0 Z = true) (w2 : (Jvm.Cond.declares y).before a0 Z = true) (w5 : (Jvm.Cond.selects C y y).before a0 Z = true) (w6 : (Jvm.Cond.instanceMethod y).before a0 Z = true) (w3 : (Jvm.Cond.initialized y.cls).before a0 Z = true) (w4 : (Jvm.Cond.code y bytes maxL rt).before a0 Z = true) (E : Exa Z h a C) (hy : y.cls ≠ "java/lang/invoke/MethodHandle" ∧ y.cls ≠ "java/lang/invoke/VarHandle") {rm : Room} {as' : Array Value} {K : Option Value → Heap → List Loc → Prop} {W : Nat} (hM : MetFree l y (head1 [Jvm.Cond.code y bytes maxL rt] rm) (fun a U => a = as' ∧ Z.Warmed39 U.vm ∧ U.heap = h) (fun _ _ _ _ _ => True) (fun _ U o U' => ∃ v L, o = .returned v ∧ K v U'.heap L ∧ FrameEnd U o U' L rm.cells rm.slots)) (hf : rm.frames + 1 ≤ R.frames) (hl : W + (maxL + 11) + rm.locals ≤ R.locals) (hc : cells + rm.cells ≤ R.cells) (hs : slots + rm.slots ≤ R.slots) (eT : T.heap = h) (hsize : Ls.size = c.maxLocals) {argsL rest : List Value} (has : (Value.ref a :: argsL).toArray = as') (hlen : ∀ sig, parseMethodDescriptor y.desc = some sig → argsL.length = sig.parameters.length) (hst : st = argsL.reverse ++ .ref a :: rest) (hW : (rest.map fun v => v.category).sum ≤ W) (hp : pc + 3 = pc') (hd : decode c.code pc = .ok (.invokevirtual index, 3))
    (k : ∀ v T' L, Stand p l e R s m args below meth c T' (locs ++ L) (cells + rm.cells) (slots + rm.slots) → K v T'.heap L → own_Goes p e below T' (mkF m pc' Ls (v.toList ++ rest)) Q) : own_Goes p e below T (mkF m pc Ls st) Q := by
  subst hp
  obtain ⟨cq, kq, qa, qb, qc⟩ := isOf hZ eT E
  obtain ⟨v, _, ⟨T', L', k', n'⟩, -, X', ⟨Lc, hQ, l1, y1, z1⟩, stp⟩ := X.virtualBack hx (y := y) (z := y) hown (mvT hZ w1) (mvT hZ w2) (notFace_of_selects (args := #[]) (mvT hZ w5)) (mvT hZ w5) (mvT hZ w6) hy (backOf (W := W) hM hZ w4 w3 hf hl) qa qc (g := mkF m pc Ls st) rfl hsize (Steps.refl _) (argsL := argsL) (rest := rest) hlen hst (by show 2 * 0 + _ ≤ _; omega) hd (fun _ _ => ⟨has, eT, hc, hs⟩)
  dsimp only [Pt.U, Pt.locs, Pt.cells, Pt.slots] at X' l1 y1 z1 stp hQ
  subst l1 y1 z1
  exact own_step (fun _ q => stp.trans q) (k v T' Lc X' hQ)
theorem own_callP (X : Stand p l e R s m args below meth c T locs cells slots) (hx : p.tables.exec = Jvm.exec) (hZ : Z.Warmed39 s.vm) {own C : String} {index : Nat} {y z z' : MethodName} {bytes : ByteArray} {maxL : Nat} {rt : Option FieldType} {a : Addr} {D : String} (hown : s.vm.findClass own = some m.cls) (w1 : (Jvm.Cond.methodLink own index y).before a0 Z = true) (w6 : (Jvm.Cond.instanceMethod y).before a0 Z = true) (w7 : (Jvm.Cond.privateMethod y).before a0 Z = true) (w5 : (Jvm.Cond.selects C z z').before a0 Z = true) (hcls : z'.cls = y.cls) (w3 : (Jvm.Cond.initialized y.cls).before a0 Z = true) (w4 : (Jvm.Cond.code y bytes maxL rt).before a0 Z = true) (E : Exa Z h a D) (hy : y.cls ≠ "java/lang/invoke/MethodHandle" ∧ y.cls ≠ "java/lang/invoke/VarHandle") {rm : Room} {as' : Array Value} {K : Option Value → Heap → List Loc → Prop} {W : Nat} (hM : MetFree l y (head1 [Jvm.Cond.code y bytes maxL rt] rm) (fun a U => a = as' ∧ Z.Warmed39 U.vm ∧ U.heap = h) (fun _ _ _ _ _ => True) (fun _ U o U' => ∃ v L, o = .returned v ∧ K v U'.heap L ∧ FrameEnd U o U' L rm.cells rm.slots)) (hf : rm.frames + 1 ≤ R.frames) (hl : W + (maxL + 11) + rm.locals ≤ R.locals) (hc : cells + rm.cells ≤ R.cells) (hs : slots + rm.slots ≤ R.slots) (eT : T.heap = h) (hsize : Ls.size = c.maxLocals) {argsL rest : List Value} (has : (Value.ref a :: argsL).toArray = as') (hlen : ∀ sig, parseMethodDescriptor y.desc = some sig → argsL.length = sig.parameters.length) (hst : st = argsL.reverse ++ .ref a :: rest) (hW : (rest.map fun v => v.category).sum ≤ W) (hp : pc + 3 = pc') (hd : decode c.code pc = .ok (.invokevirtual index, 3))
    (k : ∀ v T' L, Stand p l e R s m args below meth c T' (locs ++ L) (cells + rm.cells) (slots + rm.slots) → K v T'.heap L → own_Goes p e below T' (mkF m pc' Ls (v.toList ++ rest)) Q) : own_Goes p e below T (mkF m pc Ls st) Q := by
  subst hp
  have hs5 : (Jvm.Cond.selects C z z').before args s = true := mvT hZ w5
  obtain ⟨c2, r2, m2, -, -, q3, -, kP, hkP, hkPi⟩ := Cond.selects_spec hs5
  have hc2 : s.vm.findClass y.cls = some m2.cls := hcls ▸ findClass_of_methodNamed q3
  have hpriv := Cond.privateMethod_at (mvP hZ w7 (args := #[]))
  have hinst : (Jvm.Cond.instanceMethod y).before args s = true := mvT hZ w6
  have hsel := selects_self_of_private (args := args) hc2 hkP hkPi hpriv hinst hy
  obtain ⟨cq, qc, qc'⟩ := E.cell
  obtain ⟨v, _, ⟨T', L', k', n'⟩, -, X', ⟨Lc, hQ, l1, y1, z1⟩, stp⟩ := X.privateBack hx (y := y) hown (mvT hZ w1) hinst hsel hpriv (mvT hZ w4) hy (backOf (W := W) hM hZ w4 w3 hf hl) (g := mkF m pc Ls st) rfl hsize (Steps.refl _) (a := a) (cell := cq) (by rw [eT]; exact qc) qc' (argsL := argsL) (rest := rest) hlen hst (by show 2 * 0 + _ ≤ _; omega) hd (fun _ _ => ⟨has, eT, hc, hs⟩)
  dsimp only [Pt.U, Pt.locs, Pt.cells, Pt.slots] at X' l1 y1 z1 stp hQ
  subst l1 y1 z1
  exact own_step (fun _ q => stp.trans q) (k v T' Lc X' hQ)
theorem own_in {j : Int32} {k n : Nat} (hj : ¬ j < 0) (hk : j.toNatClampNeg = k) (hn : k < n) {cl : Cell} (hs : cl.slots.size = n) : ¬ (j < 0 ∨ cl.slots.size ≤ j.toNatClampNeg) := by
  rintro (q | q)
  · exact hj q
  · omega
theorem own_Arr.lt {a : Addr} {ty : FieldType} {n : Nat} {f : Nat → Value} (A : own_Arr Z h a ty n f) : a < h.size := by obtain ⟨c, A, -⟩ := A; exact A.lt
theorem own_Arr.ext {a : Addr} {ty : FieldType} {n : Nat} {f : Nat → Value} (E : Ext h h') (A : own_Arr Z h a ty n f) : own_Arr Z h' a ty n f := by obtain ⟨c, A, r⟩ := A; exact ⟨c, A.ext E, r⟩
theorem own_Arr.other {a b : Addr} {ty : FieldType} {n sl : Nat} {v : Value} {f : Nat → Value} (W : Wr h h' a sl v) (A : own_Arr Z h b ty n f) (q : b ≠ a) : own_Arr Z h' b ty n f := by obtain ⟨c, A, r⟩ := A; exact ⟨c, A.other W q, r⟩
theorem own_Arr.keep {a : Addr} {ty : FieldType} {n : Nat} {ws : List Addr} {f : Nat → Value} (K : Keep h h' ws) (A : own_Arr Z h a ty n f) (q : a ∉ ws) : own_Arr Z h' a ty n f := by obtain ⟨c, A, r⟩ := A; exact ⟨c, ⟨K.2.1 a c A.1 q, A.2⟩, r⟩
theorem own_Arr.congr {a : Addr} {ty : FieldType} {n : Nat} {f g : Nat → Value} (A : own_Arr Z h a ty n f) (q : ∀ j, j < n → f j = g j) : own_Arr Z h a ty n g := by
  obtain ⟨c, A, r1, r2, r3⟩ := A
  exact ⟨c, A, r1, r2, fun j hj => by rw [r3 j hj, q j hj]⟩
theorem own_sizWr {a : Addr} {sl n0 : Nat} {v : Value} (W : Wr h h' a sl v) (q : n0 ≤ h.size) : n0 ≤ h'.size := by rw [W.size]; exact q
theorem own_Arr.set {a : Addr} {ty : FieldType} {n k : Nat} {f : Nat → Value} {v : Value} {cl : Cell} (A : Arr Z h a cl ty) (r1 : cl.slots.size = n) (r2 : n < 2 ^ 31) (r3 : ∀ j, j < n → cl.slots[j]? = some (f j)) (hk : k < n) (W : Wr h h' a k v) : own_Arr Z h' a ty n (own_upd f k v) := by
  refine ⟨cl.setSlot k v, Arr.same W A, by rw [sz_set]; exact r1, r2, fun j hj => ?_⟩
  show (cl.slots.setIfInBounds k v)[j]? = _
  rw [Array.getElem?_setIfInBounds]
  by_cases q : k = j
  · subst q; simp [own_upd, r1, hk]
  · have q' : ¬ j = k := fun z => q z.symm
    simp [own_upd, q, q', r3 j hj]
theorem own_newarr (X : Stand p l e R s m args below meth c T locs cells slots) (hx : p.tables.exec = Jvm.exec) (hZ : Z.Warmed39 s.vm) {aty : ArrayType} (w : (Jvm.Cond.arrayClass (newarray.typeOf aty)).before a0 Z = true) (eT : T.heap = h) {n : Int32} (hp : pc + 2 = pc') (hd : decode c.code pc = .ok (.newarray aty, 2)) (hn : ¬ n < 0) {N : Nat} (hN : n.toNatClampNeg = N) {cap : Nat} (hcap : n.toNatClampNeg ≤ cap) (hb : cap * 8 ≤ 536870912) (hc : cells + 1 ≤ R.cells) (hl : slots + cap ≤ R.slots)
    (k : ∀ T' h', Stand p l e R s m args below meth c T' locs (cells + 1) (slots + cap) → T'.heap = h' → Ext h h' → own_Arr Z h' h.size (newarray.typeOf aty) N (fun _ => defaultValue (newarray.typeOf aty)) → own_Goes p e below T' (mkF m pc' Ls (.ref h.size :: st)) Q) : own_Goes p e below T (mkF m pc Ls (.int n :: st)) Q := by
  subst hp
  obtain ⟨T', h', cA, X', e', E', A', stp⟩ := newP X hx hZ w eT (g := mkF m pc Ls (.int n :: st)) rfl hd rfl hn hcap hb hc hl
  refine own_step stp (k T' h' X' e' E' ⟨_, A', by rw [sz_new, hN], by rw [← hN]; exact (back32 hn).2, fun j hj => ?_⟩)
  simp [newA, hN, hj]
theorem own_stI (X : Stand p l e R s m args below meth c T locs cells slots) (hx : p.tables.exec = Jvm.exec) (hZ : Z.Warmed39 s.vm) (eT : T.heap = h) {a : Addr} {n k : Nat} {f : Nat → Value} (A : own_Arr Z h a .int n f) {j : Int32} {x : Int32} (hj : ¬ j < 0) (hk : j.toNatClampNeg = k) (hn : k < n)  (hp : pc + 1 = pc') (hd : decode c.code pc = .ok (.iastore, 1))
    (q : ∀ T' h', Stand p l e R s m args below meth c T' (locs ++ [⟨a, k⟩]) cells slots → T'.heap = h' → Wr h h' a k (.int x) → own_Arr Z h' a .int n (own_upd f k (.int x)) → own_Goes p e below T' (mkF m pc' Ls st) Q) : own_Goes p e below T (mkF m pc Ls (.int x :: .int j :: .ref a :: st)) Q := by
  subst hp
  obtain ⟨cl, A, r1, r2, r3⟩ := A
  obtain ⟨T', h', X', e', W', stp⟩ := stI X hx hZ eT A (own_in hj hk hn r1) (g := mkF m pc Ls (.int x :: .int j :: .ref a :: st)) rfl rfl hd
  subst hk
  exact own_step stp (q T' h' X' e' W' (own_Arr.set A r1 r2 r3 hn W'))
theorem own_stJ (X : Stand p l e R s m args below meth c T locs cells slots) (hx : p.tables.exec = Jvm.exec) (hZ : Z.Warmed39 s.vm) (eT : T.heap = h) {a : Addr} {n k : Nat} {f : Nat → Value} (A : own_Arr Z h a .long n f) {j : Int32} {x : Int64} (hj : ¬ j < 0) (hk : j.toNatClampNeg = k) (hn : k < n)  (hp : pc + 1 = pc') (hd : decode c.code pc = .ok (.lastore, 1))
    (q : ∀ T' h', Stand p l e R s m args below meth c T' (locs ++ [⟨a, k⟩]) cells slots → T'.heap = h' → Wr h h' a k (.long x) → own_Arr Z h' a .long n (own_upd f k (.long x)) → own_Goes p e below T' (mkF m pc' Ls st) Q) : own_Goes p e below T (mkF m pc Ls (.long x :: .int j :: .ref a :: st)) Q := by
  subst hp
  obtain ⟨cl, A, r1, r2, r3⟩ := A
  obtain ⟨T', h', X', e', W', stp⟩ := stJ X hx hZ eT A (own_in hj hk hn r1) (g := mkF m pc Ls (.long x :: .int j :: .ref a :: st)) rfl rfl hd
  subst hk
  exact own_step stp (q T' h' X' e' W' (own_Arr.set A r1 r2 r3 hn W'))
theorem own_stB (X : Stand p l e R s m args below meth c T locs cells slots) (hx : p.tables.exec = Jvm.exec) (hZ : Z.Warmed39 s.vm) (eT : T.heap = h) {a : Addr} {n k : Nat} {f : Nat → Value} (A : own_Arr Z h a .byte n f) {j : Int32} {x y : Int32} (hj : ¬ j < 0) (hk : j.toNatClampNeg = k) (hn : k < n) (hv : nar .byte x = y) (hp : pc + 1 = pc') (hd : decode c.code pc = .ok (.bastore, 1))
    (q : ∀ T' h', Stand p l e R s m args below meth c T' (locs ++ [⟨a, k⟩]) cells slots → T'.heap = h' → Wr h h' a k (.int y) → own_Arr Z h' a .byte n (own_upd f k (.int y)) → own_Goes p e below T' (mkF m pc' Ls st) Q) : own_Goes p e below T (mkF m pc Ls (.int x :: .int j :: .ref a :: st)) Q := by
  subst hp; subst hv
  obtain ⟨cl, A, r1, r2, r3⟩ := A
  obtain ⟨T', h', X', e', W', stp⟩ := stB X hx hZ eT A (own_in hj hk hn r1) (g := mkF m pc Ls (.int x :: .int j :: .ref a :: st)) rfl rfl hd
  subst hk
  exact own_step stp (q T' h' X' e' W' (own_Arr.set A r1 r2 r3 hn W'))
theorem own_stC (X : Stand p l e R s m args below meth c T locs cells slots) (hx : p.tables.exec = Jvm.exec) (hZ : Z.Warmed39 s.vm) (eT : T.heap = h) {a : Addr} {n k : Nat} {f : Nat → Value} (A : own_Arr Z h a .char n f) {j : Int32} {x y : Int32} (hj : ¬ j < 0) (hk : j.toNatClampNeg = k) (hn : k < n) (hv : nar .char x = y) (hp : pc + 1 = pc') (hd : decode c.code pc = .ok (.castore, 1))
    (q : ∀ T' h', Stand p l e R s m args below meth c T' (locs ++ [⟨a, k⟩]) cells slots → T'.heap = h' → Wr h h' a k (.int y) → own_Arr Z h' a .char n (own_upd f k (.int y)) → own_Goes p e below T' (mkF m pc' Ls st) Q) : own_Goes p e below T (mkF m pc Ls (.int x :: .int j :: .ref a :: st)) Q := by
  subst hp; subst hv
  obtain ⟨cl, A, r1, r2, r3⟩ := A
  obtain ⟨T', h', X', e', W', stp⟩ := stC X hx hZ eT A (own_in hj hk hn r1) (g := mkF m pc Ls (.int x :: .int j :: .ref a :: st)) rfl rfl hd
  subst hk
  exact own_step stp (q T' h' X' e' W' (own_Arr.set A r1 r2 r3 hn W'))
theorem own_ldI (X : Stand p l e R s m args below meth c T locs cells slots) (hx : p.tables.exec = Jvm.exec) (hZ : Z.Warmed39 s.vm) (eT : T.heap = h) {a : Addr} {n k : Nat} {f : Nat → Value} (A : own_Arr Z h a .int n f) {j : Int32} (hj : ¬ j < 0) (hk : j.toNatClampNeg = k) (hn : k < n) {v : Value} (hv : f k = v) (hp : pc + 1 = pc') (hd : decode c.code pc = .ok (.iaload, 1)) (q : own_Goes p e below T (mkF m pc' Ls (v :: st)) Q) : own_Goes p e below T (mkF m pc Ls (.int j :: .ref a :: st)) Q := by
  subst hp
  obtain ⟨cl, A, r1, r2, r3⟩ := A
  exact own_step (fun t z => X.iaload hx (j := j) (v := v) (by rw [eT]; exact A.1) (State.isArrayOf_alike hZ.alike A.2.1) A.2.2 (own_in hj hk hn r1) (by rw [hk, r3 k hn, hv]) (g := mkF m pc Ls (.int j :: .ref a :: st)) rfl rfl hd t z) q
theorem own_ldJ (X : Stand p l e R s m args below meth c T locs cells slots) (hx : p.tables.exec = Jvm.exec) (hZ : Z.Warmed39 s.vm) (eT : T.heap = h) {a : Addr} {n k : Nat} {f : Nat → Value} (A : own_Arr Z h a .long n f) {j : Int32} (hj : ¬ j < 0) (hk : j.toNatClampNeg = k) (hn : k < n) {v : Value} (hv : f k = v) (hp : pc + 1 = pc') (hd : decode c.code pc = .ok (.laload, 1)) (q : own_Goes p e below T (mkF m pc' Ls (v :: st)) Q) : own_Goes p e below T (mkF m pc Ls (.int j :: .ref a :: st)) Q := by
  subst hp
  obtain ⟨cl, A, r1, r2, r3⟩ := A
  exact own_step (fun t z => X.laload hx (j := j) (v := v) (by rw [eT]; exact A.1) (State.isArrayOf_alike hZ.alike A.2.1) A.2.2 (own_in hj hk hn r1) (by rw [hk, r3 k hn, hv]) (g := mkF m pc Ls (.int j :: .ref a :: st)) rfl rfl hd t z) q
theorem own_ldB (X : Stand p l e R s m args below meth c T locs cells slots) (hx : p.tables.exec = Jvm.exec) (hZ : Z.Warmed39 s.vm) (eT : T.heap = h) {a : Addr} {n k : Nat} {f : Nat → Value} (A : own_Arr Z h a .byte n f) {j : Int32} (hj : ¬ j < 0) (hk : j.toNatClampNeg = k) (hn : k < n) {v : Value} (hv : f k = v) (hp : pc + 1 = pc') (hd : decode c.code pc = .ok (.baload, 1)) (q : own_Goes p e below T (mkF m pc' Ls (v :: st)) Q) : own_Goes p e below T (mkF m pc Ls (.int j :: .ref a :: st)) Q := by
  subst hp
  obtain ⟨cl, A, r1, r2, r3⟩ := A
  exact own_step (fun t z => X.baloadBytes hx (j := j) (v := v) (by rw [eT]; exact A.1) (State.isArrayOf_alike hZ.alike A.2.1) A.2.2 (own_in hj hk hn r1) (by rw [hk, r3 k hn, hv]) (g := mkF m pc Ls (.int j :: .ref a :: st)) rfl rfl hd t z) q
theorem own_ldC (X : Stand p l e R s m args below meth c T locs cells slots) (hx : p.tables.exec = Jvm.exec) (hZ : Z.Warmed39 s.vm) (eT : T.heap = h) {a : Addr} {n k : Nat} {f : Nat → Value} (A : own_Arr Z h a .char n f) {j : Int32} (hj : ¬ j < 0) (hk : j.toNatClampNeg = k) (hn : k < n) {v : Value} (hv : f k = v) (hp : pc + 1 = pc') (hd : decode c.code pc = .ok (.caload, 1)) (q : own_Goes p e below T (mkF m pc' Ls (v :: st)) Q) : own_Goes p e below T (mkF m pc Ls (.int j :: .ref a :: st)) Q := by
  subst hp
  obtain ⟨cl, A, r1, r2, r3⟩ := A
  exact own_step (fun t z => X.caload hx (j := j) (v := v) (by rw [eT]; exact A.1) (State.isArrayOf_alike hZ.alike A.2.1) A.2.2 (own_in hj hk hn r1) (by rw [hk, r3 k hn, hv]) (g := mkF m pc Ls (.int j :: .ref a :: st)) rfl rfl hd t z) q
theorem own_alen (X : Stand p l e R s m args below meth c T locs cells slots) (hx : p.tables.exec = Jvm.exec) (hZ : Z.Warmed39 s.vm) (eT : T.heap = h) {a : Addr} {ty : FieldType} {n : Nat} {f : Nat → Value} (A : own_Arr Z h a ty n f) {v : Int32} (hv : n.toInt32 = v) (hp : pc + 1 = pc') (hd : decode c.code pc = .ok (.arraylength, 1)) (q : own_Goes p e below T (mkF m pc' Ls (.int v :: st)) Q) : own_Goes p e below T (mkF m pc Ls (.ref a :: st)) Q := by
  subst hp; subst hv
  obtain ⟨cl, A, r1, r2, r3⟩ := A
  subst r1
  exact own_step (fun t z => X.arraylength hx (cell := cl) (by rw [eT]; exact A.1) (State.isArrayOf_alike hZ.alike A.2.1) (g := mkF m pc Ls (.ref a :: st)) rfl rfl hd t z) q
theorem own_instY (X : Stand p l e R s m args below meth c T locs cells slots) (hx : p.tables.exec = Jvm.exec) (hZ : Z.Warmed39 s.vm) {own K : String} {index : Nat} (hown : s.vm.findClass own = some m.cls) (w : (Jvm.Cond.classLink own index K).before a0 Z = true) (eT : T.heap = h) {a : Addr} (F : Ins Z h a K true) (hp : pc + 3 = pc') (hd : decode c.code pc = .ok (.instanceof index, 3))
    (k : ∀ T', Stand p l e R s m args below meth c T' locs cells slots → T'.heap = h → own_Goes p e below T' (mkF m pc' Ls (.int 1 :: st)) Q) : own_Goes p e below T (mkF m pc Ls (.ref a :: st)) Q := by
  subst hp
  obtain ⟨T', X', e', stp⟩ := instY X hx hZ hown w eT F (g := mkF m pc Ls (.ref a :: st)) rfl rfl hd
  exact own_step stp (k T' X' e')
theorem own_castY (X : Stand p l e R s m args below meth c T locs cells slots) (hx : p.tables.exec = Jvm.exec) (hZ : Z.Warmed39 s.vm) {own K : String} {index : Nat} (hown : s.vm.findClass own = some m.cls) (w : (Jvm.Cond.classLink own index K).before a0 Z = true) (eT : T.heap = h) {a : Addr} (F : Ins Z h a K true) (hp : pc + 3 = pc') (hd : decode c.code pc = .ok (.checkcast index, 3))
    (k : ∀ T', Stand p l e R s m args below meth c T' locs cells slots → T'.heap = h → own_Goes p e below T' (mkF m pc' Ls (.ref a :: st)) Q) : own_Goes p e below T (mkF m pc Ls (.ref a :: st)) Q := by
  subst hp
  obtain ⟨T', X', e', stp⟩ := castY X hx hZ hown w eT F (g := mkF m pc Ls (.ref a :: st)) rfl rfl hd
  exact own_step stp (k T' X' e')
theorem own_instNo (X : Stand p l e R s m args below meth c T locs cells slots) (hx : p.tables.exec = Jvm.exec) (hZ : Z.Warmed39 s.vm) {own K C : String} {index : Nat} (hown : s.vm.findClass own = some m.cls) (w : (Jvm.Cond.classLink own index K).before a0 Z = true) (eT : T.heap = h) {a : Addr} (E : Exa Z h a C) (F : ∃ c t, Z.vm.findClass C = some c ∧ Z.vm.findClass K = some t ∧ Z.vm.assignable c t = false) (hp : pc + 3 = pc') (hd : decode c.code pc = .ok (.instanceof index, 3))
    (k : ∀ T', Stand p l e R s m args below meth c T' locs cells slots → T'.heap = h → own_Goes p e below T' (mkF m pc' Ls (.int 0 :: st)) Q) : own_Goes p e below T (mkF m pc Ls (.ref a :: st)) Q := by
  subst hp
  obtain ⟨T', X', e', stp⟩ := instNo X hx hZ hown w eT E F (g := mkF m pc Ls (.ref a :: st)) rfl rfl hd
  exact own_step stp (k T' X' e')
theorem own_instNull (X : Stand p l e R s m args below meth c T locs cells slots) (hx : p.tables.exec = Jvm.exec) {index : Nat} (hp : pc + 3 = pc') (hd : decode c.code pc = .ok (.instanceof index, 3)) (k : own_Goes p e below T (mkF m pc' Ls (.int 0 :: st)) Q) : own_Goes p e below T (mkF m pc Ls (.null :: st)) Q := by
  subst hp; exact own_step (fun t q => X.instanceofNull hx (g := mkF m pc Ls (.null :: st)) rfl rfl hd t q) k
theorem own_fitR {v : Value} {C : String} (hv : v.isRef = true) : fits (.object C) v = true := by cases v <;> simp_all [fits, Value.isRef]
end Own
/-! 2. THE BODIES -/
open Jvm.Free.Fl Jvm.FP.Core
/-- a finite double other than zero -/
def own_Nz (a : UInt64) : Prop := ∃ s c q, val64 a = .fin s c q ∧ c ≠ 0
def own_Q (x : Int32) (a : UInt64) : Prop := (x = 0 ∧ DZero a) ∨ (¬ x = 0 ∧ own_Nz a)
theorem own_fin {x : Int32} {a : UInt64} (h : own_Q x a) : DFin a := by
  rcases h with ⟨-, s, q, h⟩ | ⟨-, s, c, q, h, -⟩
  · exact ⟨s, 0, q, h⟩
  · exact ⟨s, c, q, h⟩
theorem own_nn {a : UInt64} (h : DFin a) : NoNaN64 a := (fin64_core.mpr h).noNaN
theorem own_z0 : DZero FP.dconst0 := ⟨_, _, val64_dconst0⟩
theorem own_ofInt {x : Int32} {i : Int} {a : UInt64} (h : DInt i a) (e : i = 0 ↔ x = 0) : own_Q x a := by
  unfold DInt at h
  cases v : val64 a with
  | nan => rw [v] at h; exact h.elim
  | inf s => rw [v] at h; exact h.elim
  | fin s c q =>
    rw [v] at h
    have w := whole_zero h
    by_cases z : x = 0
    · exact Or.inl ⟨z, s, q, by rw [v, w.mpr (e.mpr z)]⟩
    · exact Or.inr ⟨z, s, c, q, v, fun q => z (e.mp (w.mp q))⟩
theorem own_min : val64 1 = .fin false 1 (-1074) := by decide +kernel
theorem own_tiny {x : Int32} {i : Int} {a : UInt64} (h : DInt i a) (e : i = 0 ↔ x = 0) (b : i.natAbs ≤ 2 ^ 31) : own_Q x (FP.dmul a 1) := by
  unfold DInt at h
  cases v : val64 a with
  | nan => rw [v] at h; exact h.elim
  | inf s => rw [v] at h; exact h.elim
  | fin s c q =>
    rw [v] at h
    have w := whole_natAbs h
    have r : val64 (FP.dmul a 1) = .fin (s != false) i.natAbs (-1074) := by
      show val64 (Jvm.FP.Core.dmul a 1) = _
      rw [val64_dmul, v, own_min]
      show roundRatio b64 (s != false) (c * 1) 1 (q + -1074) = _
      rw [roundRatio_congr (A' := i.natAbs) (B' := 1) (e' := -1074) (by decide) (by decide) ?_]
      · exact round_of_fits good_b64 (d := .fin (s != false) i.natAbs (-1074)) ⟨by show i.natAbs < 2 ^ 53; omega, by decide, by decide, Or.inl (by decide)⟩
      · rw [show q + -1074 - -1074 = q by omega, show -1074 - (q + -1074) = -q by omega]; simpa using w
    by_cases z : x = 0
    · have : i.natAbs = 0 := by rw [e.mpr z]; rfl
      exact Or.inl ⟨z, _, _, by rw [r, this]⟩
    · exact Or.inr ⟨z, _, _, _, r, fun q => z (e.mp (by omega))⟩
theorem own_cz {x : Int32} {a : UInt64} (h : own_Q x a) : cmpValue (FP.dcmp a FP.dconst0) .l = 0 ↔ x = 0 := by
  have d : ∀ s c q, val64 a = .fin s c q → FP.dcmp a FP.dconst0 = some (compare (signed s (inUnits c q (min q b64.qmin))) 0) := fun s c q v => by
    show order (val64 a) (val64 FP.dconst0) = _
    rw [v, show val64 FP.dconst0 = .fin false 0 b64.qmin from val64_dconst0]
    show some (compare _ (signed false (inUnits 0 b64.qmin (min q b64.qmin)))) = _
    rw [show signed false (inUnits 0 b64.qmin (min q b64.qmin)) = 0 from by unfold inUnits signed; simp]
  rcases h with ⟨hx, s, q, v⟩ | ⟨hx, s, c, q, v, hc⟩
  · rw [d s 0 q v, show signed s (inUnits 0 q (min q b64.qmin)) = 0 from by unfold inUnits; simp [signed_zero]]
    exact ⟨fun _ => hx, fun _ => rfl⟩
  · rw [d s c q v]
    have nz : signed s (inUnits c q (min q b64.qmin)) ≠ 0 := by
      intro z
      rw [signed_eq_zero] at z
      unfold inUnits at z
      have := Nat.two_pow_pos (q - min q b64.qmin).toNat
      rcases Nat.mul_eq_zero.mp z with z | z
      · exact hc z
      · omega
    refine ⟨fun z => absurd z ?_, fun z => absurd z hx⟩
    have := Std.LawfulEqOrd.compare_eq_iff_eq (a := signed s (inUnits c q (min q b64.qmin))) (b := 0)
    rcases k : compare (signed s (inUnits c q (min q b64.qmin))) 0 with _ | _ | _
    · decide
    · exact absurd (this.mp k) nz
    · decide
theorem own_mz {a : UInt64} (h : DFin a) : DZero (FP.dmul a FP.dconst0) := by
  obtain ⟨s, c, q, v⟩ := h
  refine ⟨s != false, b64.qmin, ?_⟩
  show val64 (Jvm.FP.Core.dmul a dconst0) = _
  rw [val64_dmul, v, val64_dconst0]
  rfl
theorem own_zb {a : UInt64} (h : DZero a) : a = FP.dconst0 ∨ a = dzeroNeg := by
  obtain ⟨s, q, v⟩ := h
  have f := val64_fits a
  rw [v] at f
  have e := fits_zero_q good_b64 f
  subst e
  have nn : val64 a ≠ .nan := by rw [v]; exact fun z => nomatch z
  cases s
  · exact Or.inl (val64_inj nn (by rw [v]; exact val64_dconst0.symm))
  · exact Or.inr (val64_inj nn (by rw [v]; exact val64_dzeroNeg.symm))
theorem own_add {x : Int32} {a z : UInt64} (h : own_Q x a) (hz : DZero z) : own_Q x (FP.dadd a z) := by
  have nn : val64 a ≠ .nan := by obtain ⟨s, c, q, v⟩ := own_fin h; rw [v]; exact fun z => nomatch z
  rcases own_zb hz with rfl | rfl
  · by_cases q : a = dzeroNeg
    · subst q
      have e : FP.dadd dzeroNeg FP.dconst0 = FP.dconst0 := by decide +kernel
      rw [e]
      rcases h with ⟨hx, -⟩ | ⟨hx, s, c, q, v, hc⟩
      · exact Or.inl ⟨hx, own_z0⟩
      · rw [val64_dzeroNeg] at v; cases v; exact absurd rfl hc
    · rw [show FP.dadd a FP.dconst0 = a from dadd_zero nn q]; exact h
  · rw [show FP.dadd a dzeroNeg = a from dadd_zeroNeg nn]; exact h
theorem own_add' {x : Int32} {a z : UInt64} (h : own_Q x a) (hz : DZero z) : own_Q x (FP.dadd z a) := by
  rw [show FP.dadd z a = FP.dadd a z from dadd_comm z a]; exact own_add h hz
theorem own_one {a : UInt64} (h : DFin a) : FP.dmul a FP.dconst1 = a := dmul_one (by obtain ⟨s, c, q, v⟩ := h; rw [v]; exact fun z => nomatch z)
theorem own_f1 : Fin64 1 := by unfold Fin64; decide
theorem own_fromI (x : Int32) : DInt x.toInt (FP.i2d x) ∧ (x.toInt = 0 ↔ x = 0) ∧ x.toInt.natAbs ≤ 2 ^ 31 := by
  have h1 := Int32.toInt_lt x
  have h2 := Int32.le_toInt x
  exact ⟨i2d_int x, ⟨fun q => Int32.toInt_inj.mp q, fun q => by rw [q]; rfl⟩, by omega⟩
theorem own_neg (x : Int32) : DInt (-x.toInt) (FP.dneg (FP.i2d x)) ∧ (-x.toInt = 0 ↔ x = 0) ∧ (-x.toInt).natAbs ≤ 2 ^ 31 := by
  have h := own_fromI x
  exact ⟨by unfold DInt; rw [Jvm.FP.val64_dneg]; exact whole_negate h.1, ⟨fun q => h.2.1.mp (by omega), fun q => by have := h.2.1.mpr q; omega⟩, by have := h.2.2; omega⟩
theorem own_df {i : Int} {a : UInt64} (h : DInt i a) : DFin a := by
  unfold DInt at h
  cases v : val64 a with
  | nan => rw [v] at h; exact h.elim
  | inf s => rw [v] at h; exact h.elim
  | fin s c q => exact ⟨s, c, q, v⟩
theorem ef_rm_rec (m : MethodId) (a1 : Addr) : entryFrame m #[(.ref a1)] 1 = mkF m 0 #[.val (.ref a1)] [] := by first | (simp [entryFrame, mkF, argsToLocals, Value.category]; done) | rfl
def K_rm_rec  (Z : State) (h0 : Heap) (n0 : Nat) (a1 : Addr) (v : Option Value) (h : Heap) (L : List Loc) : Prop := v = none ∧ Fr n0 L ∧ h = h0
theorem d_jdk_30_method_1_code_0 : decode jdk_30_method_1_code 0 = .ok (.aload_n 0, 1) := by decide +kernel
theorem d_jdk_30_method_1_code_1 : decode jdk_30_method_1_code 1 = .ok (.invokespecial 1, 3) := by decide +kernel
theorem d_jdk_30_method_1_code_4 : decode jdk_30_method_1_code 4 = .ok (.return_, 1) := by decide +kernel
theorem pn_java_lang_Record : plainName "java/lang/Record" = true := by first | (simp [plainName, overriddenIn]; done) | decide +kernel
set_option maxRecDepth 65536 in
set_option maxHeartbeats 40000000 in
theorem rm_rec (l : Launch) (Z : State) (a0 : Array Value) (hw : ∀ d ∈ tables_1, d.before a0 Z = true) (ws : List Jvm.Cond)  (a1 : Addr) (h0 : Heap) (n0 : Nat) (Z0 : n0 ≤ h0.size) :
    MetFree l (⟨"java/lang/Record", "<init>", "()V"⟩ : MethodName) (head1 (Jvm.Cond.code (⟨"java/lang/Record", "<init>", "()V"⟩ : MethodName) jdk_30_method_1_code 1 none :: ws) ({ frames := 1, cells := 0, slots := 0, locals := 12 } : Room)) (fun a U => a = #[(.ref a1)] ∧ Z.Warmed39 U.vm ∧ U.heap = h0) (fun _ _ _ _ _ => True) (fun _ U o U' => ∃ v L, o = .returned v ∧ (K_rm_rec  Z h0 n0 a1) v U'.heap L ∧ FrameEnd U o U' L ({ frames := 1, cells := 0, slots := 0, locals := 12 } : Room).cells ({ frames := 1, cells := 0, slots := 0, locals := 12 } : Room).slots) := by
  refine own_body (plainFor_of_name pn_java_lang_Record) ?_
  intro p e s m below meth c s₁ hx hby hml hown hnm hret hlk hZ X0 e0
  have hown : s.vm.findClass "java/lang/Record" = some m.cls := hown
  have N0 := Fr.nil n0
  rw [ef_rm_rec m a1]
  refine own_aloadN X0 hx (pc' := 1) rfl (hb hby d_jdk_30_method_1_code_0) rfl rfl ?_
  refine own_initO X0 hx hZ hown (hw _ (List.mem_of_getElem? (i := 15) rfl)) (hw _ (List.mem_of_getElem? (i := 16) rfl)) (hw _ (List.mem_of_getElem? (i := 17) rfl)) e0 (by rw [hml]; rfl) (pc' := 4) rfl (hb hby d_jdk_30_method_1_code_1) (by decide) (W := 0) (Nat.le_of_eq rfl) (by decide) ?_
  intro T1 X1 e1
  refine own_ret X1 hx hlk hret (hb hby d_jdk_30_method_1_code_4) (by decide) (by decide) ?_
  rw [e1]
  exact ⟨rfl, N0, rfl⟩
theorem ef_rm_ctor (m : MethodId) (a1 : Addr) (d2 : UInt64) (d3 : UInt64) : entryFrame m #[(.ref a1), (.double d2), (.double d3)] 5 = mkF m 0 #[.val (.ref a1), .val (.double d2), .second, .val (.double d3), .second] [] := by first | (simp [entryFrame, mkF, argsToLocals, Value.category]; done) | rfl
def K_rm_ctor  (Z : State) (h0 : Heap) (n0 : Nat) (a1 : Addr) (d2 : UInt64) (d3 : UInt64) (v : Option Value) (h : Heap) (L : List Loc) : Prop := v = none ∧ Fr n0 L ∧ Keep h0 h [a1] ∧ Exa Z h a1 "com/example/tranchery/tranchery/solve/Aim$Weighing" ∧ Fld Z h a1 "com/example/tranchery/tranchery/solve/Aim$Weighing" "contractor" "D" (.double d2) ∧ Fld Z h a1 "com/example/tranchery/tranchery/solve/Aim$Weighing" "client" "D" (.double d3)
theorem d_prog_30_method_1_code_0 : decode prog_30_method_1_code 0 = .ok (.aload_n 0, 1) := by decide +kernel
theorem d_prog_30_method_1_code_1 : decode prog_30_method_1_code 1 = .ok (.invokespecial 1, 3) := by decide +kernel
theorem pd___V : parseMethodDescriptor "()V" = some ⟨[], none⟩ := by decide +kernel
theorem d_prog_30_method_1_code_4 : decode prog_30_method_1_code 4 = .ok (.aload_n 0, 1) := by decide +kernel
theorem d_prog_30_method_1_code_5 : decode prog_30_method_1_code 5 = .ok (.dload_n 1, 1) := by decide +kernel
theorem d_prog_30_method_1_code_6 : decode prog_30_method_1_code 6 = .ok (.putfield 7, 3) := by decide +kernel
theorem d_prog_30_method_1_code_9 : decode prog_30_method_1_code 9 = .ok (.aload_n 0, 1) := by decide +kernel
theorem d_prog_30_method_1_code_10 : decode prog_30_method_1_code 10 = .ok (.dload_n 3, 1) := by decide +kernel
theorem d_prog_30_method_1_code_11 : decode prog_30_method_1_code 11 = .ok (.putfield 13, 3) := by decide +kernel
theorem d_prog_30_method_1_code_14 : decode prog_30_method_1_code 14 = .ok (.return_, 1) := by decide +kernel
theorem pn_com_example_tranchery_tranchery_solve_Aim_Weighing : plainName "com/example/tranchery/tranchery/solve/Aim$Weighing" = true := by first | (simp [plainName, overriddenIn]; done) | decide +kernel
set_option maxRecDepth 65536 in
set_option maxHeartbeats 40000000 in
theorem rm_ctor (l : Launch) (Z : State) (a0 : Array Value) (hw : ∀ d ∈ tables_1, d.before a0 Z = true) (ws : List Jvm.Cond)  (a1 : Addr) (d2 : UInt64) (d3 : UInt64) (h0 : Heap) (n0 : Nat) (Z0 : n0 ≤ h0.size) (I0 : Exa Z h0 a1 "com/example/tranchery/tranchery/solve/Aim$Weighing") (I1 : Fld Z h0 a1 "com/example/tranchery/tranchery/solve/Aim$Weighing" "contractor" "D" (.double (0 : UInt64))) (I2 : Fld Z h0 a1 "com/example/tranchery/tranchery/solve/Aim$Weighing" "client" "D" (.double (0 : UInt64))) (ge_a1 : n0 ≤ a1) :
    MetFree l (⟨"com/example/tranchery/tranchery/solve/Aim$Weighing", "<init>", "(DD)V"⟩ : MethodName) (head1 (Jvm.Cond.code (⟨"com/example/tranchery/tranchery/solve/Aim$Weighing", "<init>", "(DD)V"⟩ : MethodName) prog_30_method_1_code 5 none :: ws) ({ frames := 2, cells := 0, slots := 0, locals := 24 } : Room)) (fun a U => a = #[(.ref a1), (.double d2), (.double d3)] ∧ Z.Warmed39 U.vm ∧ U.heap = h0) (fun _ _ _ _ _ => True) (fun _ U o U' => ∃ v L, o = .returned v ∧ (K_rm_ctor  Z h0 n0 a1 d2 d3) v U'.heap L ∧ FrameEnd U o U' L ({ frames := 2, cells := 0, slots := 0, locals := 24 } : Room).cells ({ frames := 2, cells := 0, slots := 0, locals := 24 } : Room).slots) := by
  refine own_body (plainFor_of_name pn_com_example_tranchery_tranchery_solve_Aim_Weighing) ?_
  intro p e s m below meth c s₁ hx hby hml hown hnm hret hlk hZ X0 e0
  have hown : s.vm.findClass "com/example/tranchery/tranchery/solve/Aim$Weighing" = some m.cls := hown
  have N0 := Fr.nil n0
  rw [ef_rm_ctor m a1 d2 d3]
  have K0 := Keep.refl h0 [a1]
  refine own_aloadN X0 hx (pc' := 1) rfl (hb hby d_prog_30_method_1_code_0) rfl rfl ?_
  refine own_callC X0 hx hZ (y := (⟨"java/lang/Record", "<init>", "()V"⟩ : MethodName)) rfl hown (hw _ (List.mem_of_getElem? (i := 10) rfl)) (hw _ (List.mem_of_getElem? (i := 11) rfl)) (hw _ (List.mem_of_getElem? (i := 13) rfl)) (hw _ (List.mem_of_getElem? (i := 14) rfl))  (by decide) (rm_rec l Z a0 hw [] a1 h0 n0 Z0) (by decide) (W := 0) (by decide) (by decide) (by decide) e0 (by rw [hml]; rfl) (argsL := []) (rest := []) rfl (lenOf pd___V rfl) rfl (Nat.le_of_eq rfl) (pc' := 4) rfl (hb hby d_prog_30_method_1_code_1) ?_
  rintro _ T1 L1 X1 ⟨rfl, N1, e1⟩
  have M1 := Fr.app N0 N1
  show own_Goes p e below T1 (mkF m 4 #[.val (.ref a1), .val (.double d2), .second, .val (.double d3), .second] []) _
  refine own_aloadN X1 hx (pc' := 5) rfl (hb hby d_prog_30_method_1_code_4) rfl rfl ?_
  refine own_dloadN X1 hx (pc' := 6) rfl (hb hby d_prog_30_method_1_code_5) rfl ?_
  refine own_putF X1 hx hZ hown (host := "") (Or.inl (hw _ (List.mem_of_getElem? (i := 18) rfl))) Via.refl e1 I1 I0 (Or.inr ⟨(hw _ (List.mem_of_getElem? (i := 19) rfl)), rfl, hnm⟩) (hw _ (List.mem_of_getElem? (i := 5) rfl)) (ty := .double) (by decide) rfl rfl (pc' := 9) rfl (hb hby d_prog_30_method_1_code_6) ?_
  intro T2 h2 X2 e2 W2
  have F3 := Fld.same W2 I1
  have Siz_4 := own_sizWr W2 Z0
  have Exa_5 := Exa.wr W2 I0
  have Fld_7 := Fld.other W2 I2 (Or.inr (slot_ne (Or.inr (hw _ (List.mem_of_getElem? (i := 21) rfl))) (Or.inr (hw _ (List.mem_of_getElem? (i := 19) rfl))) (by decide) (t := .double) (t' := .double) (by decide) (by decide)))
  have N2 := Fr.snoc X2 M1 ge_a1
  have K2 := Keep.wr K0 W2 (Or.inl (by simp))
  refine own_aloadN X2 hx (pc' := 10) rfl (hb hby d_prog_30_method_1_code_9) rfl rfl ?_
  refine own_dloadN X2 hx (pc' := 11) rfl (hb hby d_prog_30_method_1_code_10) rfl ?_
  refine own_putF X2 hx hZ hown (host := "") (Or.inl (hw _ (List.mem_of_getElem? (i := 20) rfl))) Via.refl e2 Fld_7 Exa_5 (Or.inr ⟨(hw _ (List.mem_of_getElem? (i := 21) rfl)), rfl, hnm⟩) (hw _ (List.mem_of_getElem? (i := 5) rfl)) (ty := .double) (by decide) rfl rfl (pc' := 14) rfl (hb hby d_prog_30_method_1_code_11) ?_
  intro T8 h8 X8 e8 W8
  have F9 := Fld.same W8 Fld_7
  have Siz_10 := own_sizWr W8 Siz_4
  have Exa_11 := Exa.wr W8 Exa_5
  have Fld_13 := Fld.other W8 F3 (Or.inr (slot_ne (Or.inr (hw _ (List.mem_of_getElem? (i := 19) rfl))) (Or.inr (hw _ (List.mem_of_getElem? (i := 21) rfl))) (by decide) (t := .double) (t' := .double) (by decide) (by decide)))
  have N8 := Fr.snoc X8 N2 ge_a1
  have K8 := Keep.wr K2 W8 (Or.inl (by simp))
  refine own_ret X8 hx hlk hret (hb hby d_prog_30_method_1_code_14) (by decide) (by decide) ?_
  rw [e8]
  exact ⟨rfl, N8, K8, Exa_11, Fld_13, F9⟩
theorem ef_rm_draw (m : MethodId) (p1 : Int32) (p2 : Int32) : entryFrame m #[(.int p1), (.int p2)] 4 = mkF m 0 #[.val (.int p1), .val (.int p2), .unset, .unset] [] := by first | (simp [entryFrame, mkF, argsToLocals, Value.category]; done) | rfl
def K_rm_draw  (Z : State) (h0 : Heap) (n0 : Nat) (p1 : Int32) (p2 : Int32) (v : Option Value) (h : Heap) (L : List Loc) : Prop := ∃ r, v = some (.double r) ∧ own_Q p1 r ∧ Fr n0 L ∧ h = h0
theorem d_method_2_code_0 : decode method_2_code 0 = .ok (.iload_n 0, 1) := by decide +kernel
theorem d_method_2_code_1 : decode method_2_code 1 = .ok (.i2d, 1) := by decide +kernel
theorem d_method_2_code_2 : decode method_2_code 2 = .ok (.dstore_n 2, 1) := by decide +kernel
theorem d_method_2_code_3 : decode method_2_code 3 = .ok (.iload_n 1, 1) := by decide +kernel
theorem d_method_2_code_4 : decode method_2_code 4 = .ok (.iconst 1, 1) := by decide +kernel
theorem d_method_2_code_5 : decode method_2_code 5 = .ok (.iand, 1) := by decide +kernel
theorem d_method_2_code_6 : decode method_2_code 6 = .ok (.ifCond .eq 6, 3) := by decide +kernel
theorem d_method_2_code_12 : decode method_2_code 12 = .ok (.iload_n 1, 1) := by decide +kernel
theorem d_method_2_code_13 : decode method_2_code 13 = .ok (.iconst 2, 1) := by decide +kernel
theorem d_method_2_code_14 : decode method_2_code 14 = .ok (.iand, 1) := by decide +kernel
theorem d_method_2_code_15 : decode method_2_code 15 = .ok (.ifCond .eq 9, 3) := by decide +kernel
theorem d_method_2_code_24 : decode method_2_code 24 = .ok (.dload_n 2, 1) := by decide +kernel
theorem d_method_2_code_25 : decode method_2_code 25 = .ok (.dreturn, 1) := by decide +kernel
theorem d_method_2_code_18 : decode method_2_code 18 = .ok (.dload_n 2, 1) := by decide +kernel
theorem d_method_2_code_19 : decode method_2_code 19 = .ok (.ldc2_w 9, 3) := by decide +kernel
theorem d_method_2_code_22 : decode method_2_code 22 = .ok (.dmul, 1) := by decide +kernel
theorem d_method_2_code_23 : decode method_2_code 23 = .ok (.dstore_n 2, 1) := by decide +kernel
theorem d_method_2_code_9 : decode method_2_code 9 = .ok (.dload_n 2, 1) := by decide +kernel
theorem d_method_2_code_10 : decode method_2_code 10 = .ok (.dneg, 1) := by decide +kernel
theorem d_method_2_code_11 : decode method_2_code 11 = .ok (.dstore_n 2, 1) := by decide +kernel
theorem pn_com_example_tranchery_tranchery_solve_WeighingIsNonePinLaw : plainName "com/example/tranchery/tranchery/solve/WeighingIsNonePinLaw" = true := by first | (simp [plainName, overriddenIn]; done) | decide +kernel
set_option maxRecDepth 65536 in
set_option maxHeartbeats 40000000 in
theorem rm_draw (l : Launch) (Z : State) (a0 : Array Value) (hw : ∀ d ∈ tables_1, d.before a0 Z = true) (ws : List Jvm.Cond)  (p1 : Int32) (p2 : Int32) (h0 : Heap) (n0 : Nat) (Z0 : n0 ≤ h0.size) :
    MetFree l (⟨"com/example/tranchery/tranchery/solve/WeighingIsNonePinLaw", "draw", "(II)D"⟩ : MethodName) (head1 (Jvm.Cond.code (⟨"com/example/tranchery/tranchery/solve/WeighingIsNonePinLaw", "draw", "(II)D"⟩ : MethodName) method_2_code 4 (some .double) :: ws) ({ frames := 0, cells := 0, slots := 0, locals := 0 } : Room)) (fun a U => a = #[(.int p1), (.int p2)] ∧ Z.Warmed39 U.vm ∧ U.heap = h0) (fun _ _ _ _ _ => True) (fun _ U o U' => ∃ v L, o = .returned v ∧ (K_rm_draw  Z h0 n0 p1 p2) v U'.heap L ∧ FrameEnd U o U' L ({ frames := 0, cells := 0, slots := 0, locals := 0 } : Room).cells ({ frames := 0, cells := 0, slots := 0, locals := 0 } : Room).slots) := by
  refine own_body (plainFor_of_name pn_com_example_tranchery_tranchery_solve_WeighingIsNonePinLaw) ?_
  intro p e s m below meth c s₁ hx hby hml hown hnm hret hlk hZ X0 e0
  have hown : s.vm.findClass "com/example/tranchery/tranchery/solve/WeighingIsNonePinLaw" = some m.cls := hown
  have N0 := Fr.nil n0
  rw [ef_rm_draw m p1 p2]
  refine own_iloadN X0 hx (pc' := 1) rfl (hb hby d_method_2_code_0) rfl ?_
  refine own_i2d X0 hx (v := (FP.i2d p1)) (pc' := 2) rfl (hb hby d_method_2_code_1) rfl ?_
  refine own_dstoreN X0 hx (Ls' := #[.val (.int p1), .val (.int p2), .val (.double (FP.i2d p1)), .second]) (pc' := 3) rfl (hb hby d_method_2_code_2) rfl ?_
  refine own_iloadN X0 hx (pc' := 4) rfl (hb hby d_method_2_code_3) rfl ?_
  refine own_iconst X0 hx (v := (1 : Int32)) (pc' := 5) rfl (hb hby d_method_2_code_4) rfl ?_
  refine own_iand X0 hx (v := (p2 &&& (1 : Int32))) (pc' := 6) rfl (hb hby d_method_2_code_5) rfl ?_
  by_cases c6_1 : (p2 &&& (1 : Int32)) = 0
  · refine own_ifT X0 hx (pc' := 12) (hb hby d_method_2_code_6) (XT.i0_eq_t c6_1) (by decide) (by decide) ?_
    refine own_iloadN X0 hx (pc' := 13) rfl (hb hby d_method_2_code_12) rfl ?_
    refine own_iconst X0 hx (v := (2 : Int32)) (pc' := 14) rfl (hb hby d_method_2_code_13) rfl ?_
    refine own_iand X0 hx (v := (p2 &&& (2 : Int32))) (pc' := 15) rfl (hb hby d_method_2_code_14) rfl ?_
    by_cases c15_2 : (p2 &&& (2 : Int32)) = 0
    · refine own_ifT X0 hx (pc' := 24) (hb hby d_method_2_code_15) (XT.i0_eq_t c15_2) (by decide) (by decide) ?_
      refine own_dloadN X0 hx (pc' := 25) rfl (hb hby d_method_2_code_24) rfl ?_
      refine own_dret X0 hx hlk hret (hb hby d_method_2_code_25) (by decide) (by decide) ?_
      rw [e0]
      exact ⟨_, rfl, own_ofInt (own_fromI p1).1 (own_fromI p1).2.1, N0, rfl⟩
    · refine own_ifF X0 hx (pc' := 18) rfl (hb hby d_method_2_code_15) (XT.i0_eq_f c15_2) ?_
      refine own_dloadN X0 hx (pc' := 19) rfl (hb hby d_method_2_code_18) rfl ?_
      refine own_ldcD X0 hx hZ hown (hw _ (List.mem_of_getElem? (i := 32) rfl)) (pc' := 22) rfl (hb hby d_method_2_code_19) ?_
      refine own_dmul X0 hx (v := (FP.dmul (FP.i2d p1) (1 : UInt64))) (pc' := 23) rfl (hb hby d_method_2_code_22) (Jvm.Free.Fl.dmul_out (fin64_core.mpr (own_df (own_fromI p1).1)) own_f1) rfl ?_
      refine own_dstoreN X0 hx (Ls' := #[.val (.int p1), .val (.int p2), .val (.double (FP.dmul (FP.i2d p1) (1 : UInt64))), .second]) (pc' := 24) rfl (hb hby d_method_2_code_23) rfl ?_
      refine own_dloadN X0 hx (pc' := 25) rfl (hb hby d_method_2_code_24) rfl ?_
      refine own_dret X0 hx hlk hret (hb hby d_method_2_code_25) (by decide) (by decide) ?_
      rw [e0]
      exact ⟨_, rfl, own_tiny (own_fromI p1).1 (own_fromI p1).2.1 (own_fromI p1).2.2, N0, rfl⟩
  · refine own_ifF X0 hx (pc' := 9) rfl (hb hby d_method_2_code_6) (XT.i0_eq_f c6_1) ?_
    refine own_dloadN X0 hx (pc' := 10) rfl (hb hby d_method_2_code_9) rfl ?_
    refine own_dneg X0 hx (v := (FP.dneg (FP.i2d p1))) (pc' := 11) rfl (hb hby d_method_2_code_10) rfl ?_
    refine own_dstoreN X0 hx (Ls' := #[.val (.int p1), .val (.int p2), .val (.double (FP.dneg (FP.i2d p1))), .second]) (pc' := 12) rfl (hb hby d_method_2_code_11) rfl ?_
    refine own_iloadN X0 hx (pc' := 13) rfl (hb hby d_method_2_code_12) rfl ?_
    refine own_iconst X0 hx (v := (2 : Int32)) (pc' := 14) rfl (hb hby d_method_2_code_13) rfl ?_
    refine own_iand X0 hx (v := (p2 &&& (2 : Int32))) (pc' := 15) rfl (hb hby d_method_2_code_14) rfl ?_
    by_cases c15_3 : (p2 &&& (2 : Int32)) = 0
    · refine own_ifT X0 hx (pc' := 24) (hb hby d_method_2_code_15) (XT.i0_eq_t c15_3) (by decide) (by decide) ?_
      refine own_dloadN X0 hx (pc' := 25) rfl (hb hby d_method_2_code_24) rfl ?_
      refine own_dret X0 hx hlk hret (hb hby d_method_2_code_25) (by decide) (by decide) ?_
      rw [e0]
      exact ⟨_, rfl, own_ofInt (own_neg p1).1 (own_neg p1).2.1, N0, rfl⟩
    · refine own_ifF X0 hx (pc' := 18) rfl (hb hby d_method_2_code_15) (XT.i0_eq_f c15_3) ?_
      refine own_dloadN X0 hx (pc' := 19) rfl (hb hby d_method_2_code_18) rfl ?_
      refine own_ldcD X0 hx hZ hown (hw _ (List.mem_of_getElem? (i := 32) rfl)) (pc' := 22) rfl (hb hby d_method_2_code_19) ?_
      refine own_dmul X0 hx (v := (FP.dmul (FP.dneg (FP.i2d p1)) (1 : UInt64))) (pc' := 23) rfl (hb hby d_method_2_code_22) (Jvm.Free.Fl.dmul_out (fin64_core.mpr (own_df (own_neg p1).1)) own_f1) rfl ?_
      refine own_dstoreN X0 hx (Ls' := #[.val (.int p1), .val (.int p2), .val (.double (FP.dmul (FP.dneg (FP.i2d p1)) (1 : UInt64))), .second]) (pc' := 24) rfl (hb hby d_method_2_code_23) rfl ?_
      refine own_dloadN X0 hx (pc' := 25) rfl (hb hby d_method_2_code_24) rfl ?_
      refine own_dret X0 hx hlk hret (hb hby d_method_2_code_25) (by decide) (by decide) ?_
      rw [e0]
      exact ⟨_, rfl, own_tiny (own_neg p1).1 (own_neg p1).2.1 (own_neg p1).2.2, N0, rfl⟩
def own_none (x y : Int32) : Int32 := if x = 0 then (if y = 0 then 1 else 0) else 0
theorem ef_rm_none (m : MethodId) (a1 : Addr) : entryFrame m #[(.ref a1)] 1 = mkF m 0 #[.val (.ref a1)] [] := by first | (simp [entryFrame, mkF, argsToLocals, Value.category]; done) | rfl
def K_rm_none (fc : UInt64) (fk : UInt64) (x : Int32) (y : Int32) (Z : State) (h0 : Heap) (n0 : Nat) (a1 : Addr) (v : Option Value) (h : Heap) (L : List Loc) : Prop := v = some (.int (own_none x y)) ∧ Fr n0 L ∧ h = h0
theorem d_prog_30_method_3_code_0 : decode prog_30_method_3_code 0 = .ok (.aload_n 0, 1) := by decide +kernel
theorem d_prog_30_method_3_code_1 : decode prog_30_method_3_code 1 = .ok (.getfield 7, 3) := by decide +kernel
theorem d_prog_30_method_3_code_4 : decode prog_30_method_3_code 4 = .ok (.dconst 0, 1) := by decide +kernel
theorem d_prog_30_method_3_code_5 : decode prog_30_method_3_code 5 = .ok (.dcmp .l, 1) := by decide +kernel
theorem d_prog_30_method_3_code_6 : decode prog_30_method_3_code 6 = .ok (.ifCond .ne 16, 3) := by decide +kernel
theorem d_prog_30_method_3_code_9 : decode prog_30_method_3_code 9 = .ok (.aload_n 0, 1) := by decide +kernel
theorem d_prog_30_method_3_code_10 : decode prog_30_method_3_code 10 = .ok (.getfield 13, 3) := by decide +kernel
theorem d_prog_30_method_3_code_13 : decode prog_30_method_3_code 13 = .ok (.dconst 0, 1) := by decide +kernel
theorem d_prog_30_method_3_code_14 : decode prog_30_method_3_code 14 = .ok (.dcmp .l, 1) := by decide +kernel
theorem d_prog_30_method_3_code_15 : decode prog_30_method_3_code 15 = .ok (.ifCond .ne 7, 3) := by decide +kernel
theorem d_prog_30_method_3_code_18 : decode prog_30_method_3_code 18 = .ok (.iconst 1, 1) := by decide +kernel
theorem d_prog_30_method_3_code_19 : decode prog_30_method_3_code 19 = .ok (.goto 4, 3) := by decide +kernel
theorem d_prog_30_method_3_code_23 : decode prog_30_method_3_code 23 = .ok (.ireturn, 1) := by decide +kernel
theorem d_prog_30_method_3_code_22 : decode prog_30_method_3_code 22 = .ok (.iconst 0, 1) := by decide +kernel
set_option maxRecDepth 65536 in
set_option maxHeartbeats 40000000 in
theorem rm_none (l : Launch) (Z : State) (a0 : Array Value) (hw : ∀ d ∈ tables_1, d.before a0 Z = true) (ws : List Jvm.Cond) (fc : UInt64) (fk : UInt64) (x : Int32) (y : Int32) (a1 : Addr) (h0 : Heap) (n0 : Nat) (Z0 : n0 ≤ h0.size) (I0 : Exa Z h0 a1 "com/example/tranchery/tranchery/solve/Aim$Weighing") (I1 : Fld Z h0 a1 "com/example/tranchery/tranchery/solve/Aim$Weighing" "contractor" "D" (.double fc)) (I2 : Fld Z h0 a1 "com/example/tranchery/tranchery/solve/Aim$Weighing" "client" "D" (.double fk)) (hc : own_Q x fc) (hk : own_Q y fk) :
    MetFree l (⟨"com/example/tranchery/tranchery/solve/Aim$Weighing", "isNone", "()Z"⟩ : MethodName) (head1 (Jvm.Cond.code (⟨"com/example/tranchery/tranchery/solve/Aim$Weighing", "isNone", "()Z"⟩ : MethodName) prog_30_method_3_code 1 (some .boolean) :: ws) ({ frames := 0, cells := 0, slots := 0, locals := 0 } : Room)) (fun a U => a = #[(.ref a1)] ∧ Z.Warmed39 U.vm ∧ U.heap = h0) (fun _ _ _ _ _ => True) (fun _ U o U' => ∃ v L, o = .returned v ∧ (K_rm_none fc fk x y Z h0 n0 a1) v U'.heap L ∧ FrameEnd U o U' L ({ frames := 0, cells := 0, slots := 0, locals := 0 } : Room).cells ({ frames := 0, cells := 0, slots := 0, locals := 0 } : Room).slots) := by
  refine own_body (plainFor_of_name pn_com_example_tranchery_tranchery_solve_Aim_Weighing) ?_
  intro p e s m below meth c s₁ hx hby hml hown hnm hret hlk hZ X0 e0
  have hown : s.vm.findClass "com/example/tranchery/tranchery/solve/Aim$Weighing" = some m.cls := hown
  have N0 := Fr.nil n0
  rw [ef_rm_none m a1]
  refine own_aloadN X0 hx (pc' := 1) rfl (hb hby d_prog_30_method_3_code_0) rfl rfl ?_
  refine own_getF X0 hx hZ hown (host := "") (Or.inl (hw _ (List.mem_of_getElem? (i := 18) rfl))) Via.refl e0 I1 (pc' := 4) rfl (hb hby d_prog_30_method_3_code_1) ?_
  intro T1 X1 e1
  refine own_dconst0 X1 hx (v := FP.dconst0) (pc' := 5) rfl (hb hby d_prog_30_method_3_code_4) rfl ?_
  refine own_dcmp X1 hx (v := (cmpValue (FP.dcmp fc FP.dconst0) .l)) (pc' := 6) rfl (hb hby d_prog_30_method_3_code_5) rfl ?_
  by_cases c6_2 : (cmpValue (FP.dcmp fc FP.dconst0) .l) = 0
  · refine own_ifF X1 hx (pc' := 9) rfl (hb hby d_prog_30_method_3_code_6) (XT.i0_ne_f c6_2) ?_
    refine own_aloadN X1 hx (pc' := 10) rfl (hb hby d_prog_30_method_3_code_9) rfl rfl ?_
    refine own_getF X1 hx hZ hown (host := "") (Or.inl (hw _ (List.mem_of_getElem? (i := 20) rfl))) Via.refl e1 I2 (pc' := 13) rfl (hb hby d_prog_30_method_3_code_10) ?_
    intro T3 X3 e3
    refine own_dconst0 X3 hx (v := FP.dconst0) (pc' := 14) rfl (hb hby d_prog_30_method_3_code_13) rfl ?_
    refine own_dcmp X3 hx (v := (cmpValue (FP.dcmp fk FP.dconst0) .l)) (pc' := 15) rfl (hb hby d_prog_30_method_3_code_14) rfl ?_
    by_cases c15_4 : (cmpValue (FP.dcmp fk FP.dconst0) .l) = 0
    · refine own_ifF X3 hx (pc' := 18) rfl (hb hby d_prog_30_method_3_code_15) (XT.i0_ne_f c15_4) ?_
      refine own_iconst X3 hx (v := (1 : Int32)) (pc' := 19) rfl (hb hby d_prog_30_method_3_code_18) rfl ?_
      refine own_goto X3 hx (pc' := 23) (hb hby d_prog_30_method_3_code_19) (by decide) (by decide) ?_
      refine own_zret X3 hx hlk hret (by simp) (hb hby d_prog_30_method_3_code_23) (by decide) (by decide) ?_
      rw [e3]
      exact ⟨by first | (simp only [own_none, if_pos ((own_cz hc).mp c6_2), if_pos ((own_cz hk).mp c15_4)]; done) | (simp only [own_none, if_pos ((own_cz hc).mp c6_2), if_pos ((own_cz hk).mp c15_4)]; rfl), N0, rfl⟩
    · refine own_ifT X3 hx (pc' := 22) (hb hby d_prog_30_method_3_code_15) (XT.i0_ne_t c15_4) (by decide) (by decide) ?_
      refine own_iconst X3 hx (v := (0 : Int32)) (pc' := 23) rfl (hb hby d_prog_30_method_3_code_22) rfl ?_
      refine own_zret X3 hx hlk hret (by simp) (hb hby d_prog_30_method_3_code_23) (by decide) (by decide) ?_
      rw [e3]
      exact ⟨by first | (simp only [own_none, if_pos ((own_cz hc).mp c6_2), if_neg (fun z => c15_4 ((own_cz hk).mpr z))]; done) | (simp only [own_none, if_pos ((own_cz hc).mp c6_2), if_neg (fun z => c15_4 ((own_cz hk).mpr z))]; rfl), N0, rfl⟩
  · refine own_ifT X1 hx (pc' := 22) (hb hby d_prog_30_method_3_code_6) (XT.i0_ne_t c6_2) (by decide) (by decide) ?_
    refine own_iconst X1 hx (v := (0 : Int32)) (pc' := 23) rfl (hb hby d_prog_30_method_3_code_22) rfl ?_
    refine own_zret X1 hx hlk hret (by simp) (hb hby d_prog_30_method_3_code_23) (by decide) (by decide) ?_
    rw [e1]
    exact ⟨by first | (simp only [own_none, if_neg (fun z => c6_2 ((own_cz hc).mpr z))]; done) | (simp only [own_none, if_neg (fun z => c6_2 ((own_cz hc).mpr z))]; rfl), N0, rfl⟩
theorem ef_rm_of10 (m : MethodId) (a1 : Addr) : entryFrame m #[(.ref a1), (.double FP.dconst1), (.double FP.dconst0)] 9 = mkF m 0 #[.val (.ref a1), .val (.double FP.dconst1), .second, .val (.double FP.dconst0), .second, .unset, .unset, .unset, .unset] [] := by first | (simp [entryFrame, mkF, argsToLocals, Value.category]; done) | rfl
def K_rm_of10 (fc : UInt64) (fk : UInt64) (x : Int32) (y : Int32) (Z : State) (h0 : Heap) (n0 : Nat) (a1 : Addr) (v : Option Value) (h : Heap) (L : List Loc) : Prop := ∃ r, v = some (.double r) ∧ own_Q x r ∧ Fr n0 L ∧ h = h0
theorem d_prog_30_method_5_code_0 : decode prog_30_method_5_code 0 = .ok (.aload_n 0, 1) := by decide +kernel
theorem d_prog_30_method_5_code_1 : decode prog_30_method_5_code 1 = .ok (.getfield 7, 3) := by decide +kernel
theorem d_prog_30_method_5_code_4 : decode prog_30_method_5_code 4 = .ok (.dconst 0, 1) := by decide +kernel
theorem d_prog_30_method_5_code_5 : decode prog_30_method_5_code 5 = .ok (.dcmp .l, 1) := by decide +kernel
theorem d_prog_30_method_5_code_6 : decode prog_30_method_5_code 6 = .ok (.ifCond .ne 7, 3) := by decide +kernel
theorem d_prog_30_method_5_code_9 : decode prog_30_method_5_code 9 = .ok (.dconst 0, 1) := by decide +kernel
theorem d_prog_30_method_5_code_10 : decode prog_30_method_5_code 10 = .ok (.goto 9, 3) := by decide +kernel
theorem d_prog_30_method_5_code_19 : decode prog_30_method_5_code 19 = .ok (.dstore 5, 2) := by decide +kernel
theorem d_prog_30_method_5_code_21 : decode prog_30_method_5_code 21 = .ok (.aload_n 0, 1) := by decide +kernel
theorem d_prog_30_method_5_code_22 : decode prog_30_method_5_code 22 = .ok (.getfield 13, 3) := by decide +kernel
theorem d_prog_30_method_5_code_25 : decode prog_30_method_5_code 25 = .ok (.dconst 0, 1) := by decide +kernel
theorem d_prog_30_method_5_code_26 : decode prog_30_method_5_code 26 = .ok (.dcmp .l, 1) := by decide +kernel
theorem d_prog_30_method_5_code_27 : decode prog_30_method_5_code 27 = .ok (.ifCond .ne 7, 3) := by decide +kernel
theorem d_prog_30_method_5_code_30 : decode prog_30_method_5_code 30 = .ok (.dconst 0, 1) := by decide +kernel
theorem d_prog_30_method_5_code_31 : decode prog_30_method_5_code 31 = .ok (.goto 9, 3) := by decide +kernel
theorem d_prog_30_method_5_code_40 : decode prog_30_method_5_code 40 = .ok (.dstore 7, 2) := by decide +kernel
theorem d_prog_30_method_5_code_42 : decode prog_30_method_5_code 42 = .ok (.dload 5, 2) := by decide +kernel
theorem d_prog_30_method_5_code_44 : decode prog_30_method_5_code 44 = .ok (.dload 7, 2) := by decide +kernel
theorem d_prog_30_method_5_code_46 : decode prog_30_method_5_code 46 = .ok (.dadd, 1) := by decide +kernel
theorem d_prog_30_method_5_code_47 : decode prog_30_method_5_code 47 = .ok (.dreturn, 1) := by decide +kernel
theorem d_prog_30_method_5_code_34 : decode prog_30_method_5_code 34 = .ok (.aload_n 0, 1) := by decide +kernel
theorem d_prog_30_method_5_code_35 : decode prog_30_method_5_code 35 = .ok (.getfield 13, 3) := by decide +kernel
theorem d_prog_30_method_5_code_38 : decode prog_30_method_5_code 38 = .ok (.dload_n 3, 1) := by decide +kernel
theorem d_prog_30_method_5_code_39 : decode prog_30_method_5_code 39 = .ok (.dmul, 1) := by decide +kernel
theorem d_prog_30_method_5_code_13 : decode prog_30_method_5_code 13 = .ok (.aload_n 0, 1) := by decide +kernel
theorem d_prog_30_method_5_code_14 : decode prog_30_method_5_code 14 = .ok (.getfield 7, 3) := by decide +kernel
theorem d_prog_30_method_5_code_17 : decode prog_30_method_5_code 17 = .ok (.dload_n 1, 1) := by decide +kernel
theorem d_prog_30_method_5_code_18 : decode prog_30_method_5_code 18 = .ok (.dmul, 1) := by decide +kernel
set_option maxRecDepth 65536 in
set_option maxHeartbeats 40000000 in
theorem rm_of10 (l : Launch) (Z : State) (a0 : Array Value) (hw : ∀ d ∈ tables_1, d.before a0 Z = true) (ws : List Jvm.Cond) (fc : UInt64) (fk : UInt64) (x : Int32) (y : Int32) (a1 : Addr) (h0 : Heap) (n0 : Nat) (Z0 : n0 ≤ h0.size) (I0 : Exa Z h0 a1 "com/example/tranchery/tranchery/solve/Aim$Weighing") (I1 : Fld Z h0 a1 "com/example/tranchery/tranchery/solve/Aim$Weighing" "contractor" "D" (.double fc)) (I2 : Fld Z h0 a1 "com/example/tranchery/tranchery/solve/Aim$Weighing" "client" "D" (.double fk)) (hc : own_Q x fc) (hk : own_Q y fk) :
    MetFree l (⟨"com/example/tranchery/tranchery/solve/Aim$Weighing", "of", "(DD)D"⟩ : MethodName) (head1 (Jvm.Cond.code (⟨"com/example/tranchery/tranchery/solve/Aim$Weighing", "of", "(DD)D"⟩ : MethodName) prog_30_method_5_code 9 (some .double) :: ws) ({ frames := 0, cells := 0, slots := 0, locals := 0 } : Room)) (fun a U => a = #[(.ref a1), (.double FP.dconst1), (.double FP.dconst0)] ∧ Z.Warmed39 U.vm ∧ U.heap = h0) (fun _ _ _ _ _ => True) (fun _ U o U' => ∃ v L, o = .returned v ∧ (K_rm_of10 fc fk x y Z h0 n0 a1) v U'.heap L ∧ FrameEnd U o U' L ({ frames := 0, cells := 0, slots := 0, locals := 0 } : Room).cells ({ frames := 0, cells := 0, slots := 0, locals := 0 } : Room).slots) := by
  refine own_body (plainFor_of_name pn_com_example_tranchery_tranchery_solve_Aim_Weighing) ?_
  intro p e s m below meth c s₁ hx hby hml hown hnm hret hlk hZ X0 e0
  have hown : s.vm.findClass "com/example/tranchery/tranchery/solve/Aim$Weighing" = some m.cls := hown
  have N0 := Fr.nil n0
  rw [ef_rm_of10 m a1]
  refine own_aloadN X0 hx (pc' := 1) rfl (hb hby d_prog_30_method_5_code_0) rfl rfl ?_
  refine own_getF X0 hx hZ hown (host := "") (Or.inl (hw _ (List.mem_of_getElem? (i := 18) rfl))) Via.refl e0 I1 (pc' := 4) rfl (hb hby d_prog_30_method_5_code_1) ?_
  intro T1 X1 e1
  refine own_dconst0 X1 hx (v := FP.dconst0) (pc' := 5) rfl (hb hby d_prog_30_method_5_code_4) rfl ?_
  refine own_dcmp X1 hx (v := (cmpValue (FP.dcmp fc FP.dconst0) .l)) (pc' := 6) rfl (hb hby d_prog_30_method_5_code_5) rfl ?_
  by_cases c6_2 : (cmpValue (FP.dcmp fc FP.dconst0) .l) = 0
  · refine own_ifF X1 hx (pc' := 9) rfl (hb hby d_prog_30_method_5_code_6) (XT.i0_ne_f c6_2) ?_
    refine own_dconst0 X1 hx (v := FP.dconst0) (pc' := 10) rfl (hb hby d_prog_30_method_5_code_9) rfl ?_
    refine own_goto X1 hx (pc' := 19) (hb hby d_prog_30_method_5_code_10) (by decide) (by decide) ?_
    refine own_dstore X1 hx (Ls' := #[.val (.ref a1), .val (.double FP.dconst1), .second, .val (.double FP.dconst0), .second, .val (.double FP.dconst0), .second, .unset, .unset]) (pc' := 21) rfl (hb hby d_prog_30_method_5_code_19) rfl ?_
    refine own_aloadN X1 hx (pc' := 22) rfl (hb hby d_prog_30_method_5_code_21) rfl rfl ?_
    refine own_getF X1 hx hZ hown (host := "") (Or.inl (hw _ (List.mem_of_getElem? (i := 20) rfl))) Via.refl e1 I2 (pc' := 25) rfl (hb hby d_prog_30_method_5_code_22) ?_
    intro T3 X3 e3
    refine own_dconst0 X3 hx (v := FP.dconst0) (pc' := 26) rfl (hb hby d_prog_30_method_5_code_25) rfl ?_
    refine own_dcmp X3 hx (v := (cmpValue (FP.dcmp fk FP.dconst0) .l)) (pc' := 27) rfl (hb hby d_prog_30_method_5_code_26) rfl ?_
    by_cases c27_4 : (cmpValue (FP.dcmp fk FP.dconst0) .l) = 0
    · refine own_ifF X3 hx (pc' := 30) rfl (hb hby d_prog_30_method_5_code_27) (XT.i0_ne_f c27_4) ?_
      refine own_dconst0 X3 hx (v := FP.dconst0) (pc' := 31) rfl (hb hby d_prog_30_method_5_code_30) rfl ?_
      refine own_goto X3 hx (pc' := 40) (hb hby d_prog_30_method_5_code_31) (by decide) (by decide) ?_
      refine own_dstore X3 hx (Ls' := #[.val (.ref a1), .val (.double FP.dconst1), .second, .val (.double FP.dconst0), .second, .val (.double FP.dconst0), .second, .val (.double FP.dconst0), .second]) (pc' := 42) rfl (hb hby d_prog_30_method_5_code_40) rfl ?_
      refine own_dload X3 hx (pc' := 44) rfl (hb hby d_prog_30_method_5_code_42) rfl ?_
      refine own_dload X3 hx (pc' := 46) rfl (hb hby d_prog_30_method_5_code_44) rfl ?_
      refine own_dadd X3 hx (v := (FP.dadd FP.dconst0 FP.dconst0)) (pc' := 47) rfl (hb hby d_prog_30_method_5_code_46) (Jvm.Free.Fl.dadd_out' (fin64_core.mpr own_z0.fin) (fin64_core.mpr own_z0.fin).noNaN) rfl ?_
      refine own_dret X3 hx hlk hret (hb hby d_prog_30_method_5_code_47) (by decide) (by decide) ?_
      rw [e3]
      exact ⟨_, rfl, own_add (Or.inl ⟨(own_cz hc).mp c6_2, own_z0⟩ : own_Q x FP.dconst0) own_z0, N0, rfl⟩
    · refine own_ifT X3 hx (pc' := 34) (hb hby d_prog_30_method_5_code_27) (XT.i0_ne_t c27_4) (by decide) (by decide) ?_
      refine own_aloadN X3 hx (pc' := 35) rfl (hb hby d_prog_30_method_5_code_34) rfl rfl ?_
      refine own_getF X3 hx hZ hown (host := "") (Or.inl (hw _ (List.mem_of_getElem? (i := 20) rfl))) Via.refl e3 I2 (pc' := 38) rfl (hb hby d_prog_30_method_5_code_35) ?_
      intro T5 X5 e5
      refine own_dloadN X5 hx (pc' := 39) rfl (hb hby d_prog_30_method_5_code_38) rfl ?_
      refine own_dmul X5 hx (v := (FP.dmul fk FP.dconst0)) (pc' := 40) rfl (hb hby d_prog_30_method_5_code_39) (own_nn (own_mz (own_fin hk)).fin) rfl ?_
      refine own_dstore X5 hx (Ls' := #[.val (.ref a1), .val (.double FP.dconst1), .second, .val (.double FP.dconst0), .second, .val (.double FP.dconst0), .second, .val (.double (FP.dmul fk FP.dconst0)), .second]) (pc' := 42) rfl (hb hby d_prog_30_method_5_code_40) rfl ?_
      refine own_dload X5 hx (pc' := 44) rfl (hb hby d_prog_30_method_5_code_42) rfl ?_
      refine own_dload X5 hx (pc' := 46) rfl (hb hby d_prog_30_method_5_code_44) rfl ?_
      refine own_dadd X5 hx (v := (FP.dadd FP.dconst0 (FP.dmul fk FP.dconst0))) (pc' := 47) rfl (hb hby d_prog_30_method_5_code_46) (Jvm.Free.Fl.dadd_out' (fin64_core.mpr own_z0.fin) (fin64_core.mpr (own_mz (own_fin hk)).fin).noNaN) rfl ?_
      refine own_dret X5 hx hlk hret (hb hby d_prog_30_method_5_code_47) (by decide) (by decide) ?_
      rw [e5]
      exact ⟨_, rfl, own_add (Or.inl ⟨(own_cz hc).mp c6_2, own_z0⟩ : own_Q x FP.dconst0) (own_mz (own_fin hk)), N0, rfl⟩
  · refine own_ifT X1 hx (pc' := 13) (hb hby d_prog_30_method_5_code_6) (XT.i0_ne_t c6_2) (by decide) (by decide) ?_
    refine own_aloadN X1 hx (pc' := 14) rfl (hb hby d_prog_30_method_5_code_13) rfl rfl ?_
    refine own_getF X1 hx hZ hown (host := "") (Or.inl (hw _ (List.mem_of_getElem? (i := 18) rfl))) Via.refl e1 I1 (pc' := 17) rfl (hb hby d_prog_30_method_5_code_14) ?_
    intro T6 X6 e6
    refine own_dloadN X6 hx (pc' := 18) rfl (hb hby d_prog_30_method_5_code_17) rfl ?_
    refine own_dmul X6 hx (v := fc) (pc' := 19) rfl (hb hby d_prog_30_method_5_code_18) (by rw [own_one (own_fin hc)]; exact own_nn (own_fin hc)) (own_one (own_fin hc)) ?_
    refine own_dstore X6 hx (Ls' := #[.val (.ref a1), .val (.double FP.dconst1), .second, .val (.double FP.dconst0), .second, .val (.double fc), .second, .unset, .unset]) (pc' := 21) rfl (hb hby d_prog_30_method_5_code_19) rfl ?_
    refine own_aloadN X6 hx (pc' := 22) rfl (hb hby d_prog_30_method_5_code_21) rfl rfl ?_
    refine own_getF X6 hx hZ hown (host := "") (Or.inl (hw _ (List.mem_of_getElem? (i := 20) rfl))) Via.refl e6 I2 (pc' := 25) rfl (hb hby d_prog_30_method_5_code_22) ?_
    intro T7 X7 e7
    refine own_dconst0 X7 hx (v := FP.dconst0) (pc' := 26) rfl (hb hby d_prog_30_method_5_code_25) rfl ?_
    refine own_dcmp X7 hx (v := (cmpValue (FP.dcmp fk FP.dconst0) .l)) (pc' := 27) rfl (hb hby d_prog_30_method_5_code_26) rfl ?_
    by_cases c27_8 : (cmpValue (FP.dcmp fk FP.dconst0) .l) = 0
    · refine own_ifF X7 hx (pc' := 30) rfl (hb hby d_prog_30_method_5_code_27) (XT.i0_ne_f c27_8) ?_
      refine own_dconst0 X7 hx (v := FP.dconst0) (pc' := 31) rfl (hb hby d_prog_30_method_5_code_30) rfl ?_
      refine own_goto X7 hx (pc' := 40) (hb hby d_prog_30_method_5_code_31) (by decide) (by decide) ?_
      refine own_dstore X7 hx (Ls' := #[.val (.ref a1), .val (.double FP.dconst1), .second, .val (.double FP.dconst0), .second, .val (.double fc), .second, .val (.double FP.dconst0), .second]) (pc' := 42) rfl (hb hby d_prog_30_method_5_code_40) rfl ?_
      refine own_dload X7 hx (pc' := 44) rfl (hb hby d_prog_30_method_5_code_42) rfl ?_
      refine own_dload X7 hx (pc' := 46) rfl (hb hby d_prog_30_method_5_code_44) rfl ?_
      refine own_dadd X7 hx (v := (FP.dadd fc FP.dconst0)) (pc' := 47) rfl (hb hby d_prog_30_method_5_code_46) (Jvm.Free.Fl.dadd_out' (fin64_core.mpr (own_fin hc)) (fin64_core.mpr own_z0.fin).noNaN) rfl ?_
      refine own_dret X7 hx hlk hret (hb hby d_prog_30_method_5_code_47) (by decide) (by decide) ?_
      rw [e7]
      exact ⟨_, rfl, own_add hc own_z0, N0, rfl⟩
    · refine own_ifT X7 hx (pc' := 34) (hb hby d_prog_30_method_5_code_27) (XT.i0_ne_t c27_8) (by decide) (by decide) ?_
      refine own_aloadN X7 hx (pc' := 35) rfl (hb hby d_prog_30_method_5_code_34) rfl rfl ?_
      refine own_getF X7 hx hZ hown (host := "") (Or.inl (hw _ (List.mem_of_getElem? (i := 20) rfl))) Via.refl e7 I2 (pc' := 38) rfl (hb hby d_prog_30_method_5_code_35) ?_
      intro T9 X9 e9
      refine own_dloadN X9 hx (pc' := 39) rfl (hb hby d_prog_30_method_5_code_38) rfl ?_
      refine own_dmul X9 hx (v := (FP.dmul fk FP.dconst0)) (pc' := 40) rfl (hb hby d_prog_30_method_5_code_39) (own_nn (own_mz (own_fin hk)).fin) rfl ?_
      refine own_dstore X9 hx (Ls' := #[.val (.ref a1), .val (.double FP.dconst1), .second, .val (.double FP.dconst0), .second, .val (.double fc), .second, .val (.double (FP.dmul fk FP.dconst0)), .second]) (pc' := 42) rfl (hb hby d_prog_30_method_5_code_40) rfl ?_
      refine own_dload X9 hx (pc' := 44) rfl (hb hby d_prog_30_method_5_code_42) rfl ?_
      refine own_dload X9 hx (pc' := 46) rfl (hb hby d_prog_30_method_5_code_44) rfl ?_
      refine own_dadd X9 hx (v := (FP.dadd fc (FP.dmul fk FP.dconst0))) (pc' := 47) rfl (hb hby d_prog_30_method_5_code_46) (Jvm.Free.Fl.dadd_out' (fin64_core.mpr (own_fin hc)) (fin64_core.mpr (own_mz (own_fin hk)).fin).noNaN) rfl ?_
      refine own_dret X9 hx hlk hret (hb hby d_prog_30_method_5_code_47) (by decide) (by decide) ?_
      rw [e9]
      exact ⟨_, rfl, own_add hc (own_mz (own_fin hk)), N0, rfl⟩
theorem ef_rm_of01 (m : MethodId) (a1 : Addr) : entryFrame m #[(.ref a1), (.double FP.dconst0), (.double FP.dconst1)] 9 = mkF m 0 #[.val (.ref a1), .val (.double FP.dconst0), .second, .val (.double FP.dconst1), .second, .unset, .unset, .unset, .unset] [] := by first | (simp [entryFrame, mkF, argsToLocals, Value.category]; done) | rfl
def K_rm_of01 (fc : UInt64) (fk : UInt64) (x : Int32) (y : Int32) (Z : State) (h0 : Heap) (n0 : Nat) (a1 : Addr) (v : Option Value) (h : Heap) (L : List Loc) : Prop := ∃ r, v = some (.double r) ∧ own_Q y r ∧ Fr n0 L ∧ h = h0
set_option maxRecDepth 65536 in
set_option maxHeartbeats 40000000 in
theorem rm_of01 (l : Launch) (Z : State) (a0 : Array Value) (hw : ∀ d ∈ tables_1, d.before a0 Z = true) (ws : List Jvm.Cond) (fc : UInt64) (fk : UInt64) (x : Int32) (y : Int32) (a1 : Addr) (h0 : Heap) (n0 : Nat) (Z0 : n0 ≤ h0.size) (I0 : Exa Z h0 a1 "com/example/tranchery/tranchery/solve/Aim$Weighing") (I1 : Fld Z h0 a1 "com/example/tranchery/tranchery/solve/Aim$Weighing" "contractor" "D" (.double fc)) (I2 : Fld Z h0 a1 "com/example/tranchery/tranchery/solve/Aim$Weighing" "client" "D" (.double fk)) (hc : own_Q x fc) (hk : own_Q y fk) :
    MetFree l (⟨"com/example/tranchery/tranchery/solve/Aim$Weighing", "of", "(DD)D"⟩ : MethodName) (head1 (Jvm.Cond.code (⟨"com/example/tranchery/tranchery/solve/Aim$Weighing", "of", "(DD)D"⟩ : MethodName) prog_30_method_5_code 9 (some .double) :: ws) ({ frames := 0, cells := 0, slots := 0, locals := 0 } : Room)) (fun a U => a = #[(.ref a1), (.double FP.dconst0), (.double FP.dconst1)] ∧ Z.Warmed39 U.vm ∧ U.heap = h0) (fun _ _ _ _ _ => True) (fun _ U o U' => ∃ v L, o = .returned v ∧ (K_rm_of01 fc fk x y Z h0 n0 a1) v U'.heap L ∧ FrameEnd U o U' L ({ frames := 0, cells := 0, slots := 0, locals := 0 } : Room).cells ({ frames := 0, cells := 0, slots := 0, locals := 0 } : Room).slots) := by
  refine own_body (plainFor_of_name pn_com_example_tranchery_tranchery_solve_Aim_Weighing) ?_
  intro p e s m below meth c s₁ hx hby hml hown hnm hret hlk hZ X0 e0
  have hown : s.vm.findClass "com/example/tranchery/tranchery/solve/Aim$Weighing" = some m.cls := hown
  have N0 := Fr.nil n0
  rw [ef_rm_of01 m a1]
  refine own_aloadN X0 hx (pc' := 1) rfl (hb hby d_prog_30_method_5_code_0) rfl rfl ?_
  refine own_getF X0 hx hZ hown (host := "") (Or.inl (hw _ (List.mem_of_getElem? (i := 18) rfl))) Via.refl e0 I1 (pc' := 4) rfl (hb hby d_prog_30_method_5_code_1) ?_
  intro T1 X1 e1
  refine own_dconst0 X1 hx (v := FP.dconst0) (pc' := 5) rfl (hb hby d_prog_30_method_5_code_4) rfl ?_
  refine own_dcmp X1 hx (v := (cmpValue (FP.dcmp fc FP.dconst0) .l)) (pc' := 6) rfl (hb hby d_prog_30_method_5_code_5) rfl ?_
  by_cases c6_2 : (cmpValue (FP.dcmp fc FP.dconst0) .l) = 0
  · refine own_ifF X1 hx (pc' := 9) rfl (hb hby d_prog_30_method_5_code_6) (XT.i0_ne_f c6_2) ?_
    refine own_dconst0 X1 hx (v := FP.dconst0) (pc' := 10) rfl (hb hby d_prog_30_method_5_code_9) rfl ?_
    refine own_goto X1 hx (pc' := 19) (hb hby d_prog_30_method_5_code_10) (by decide) (by decide) ?_
    refine own_dstore X1 hx (Ls' := #[.val (.ref a1), .val (.double FP.dconst0), .second, .val (.double FP.dconst1), .second, .val (.double FP.dconst0), .second, .unset, .unset]) (pc' := 21) rfl (hb hby d_prog_30_method_5_code_19) rfl ?_
    refine own_aloadN X1 hx (pc' := 22) rfl (hb hby d_prog_30_method_5_code_21) rfl rfl ?_
    refine own_getF X1 hx hZ hown (host := "") (Or.inl (hw _ (List.mem_of_getElem? (i := 20) rfl))) Via.refl e1 I2 (pc' := 25) rfl (hb hby d_prog_30_method_5_code_22) ?_
    intro T3 X3 e3
    refine own_dconst0 X3 hx (v := FP.dconst0) (pc' := 26) rfl (hb hby d_prog_30_method_5_code_25) rfl ?_
    refine own_dcmp X3 hx (v := (cmpValue (FP.dcmp fk FP.dconst0) .l)) (pc' := 27) rfl (hb hby d_prog_30_method_5_code_26) rfl ?_
    by_cases c27_4 : (cmpValue (FP.dcmp fk FP.dconst0) .l) = 0
    · refine own_ifF X3 hx (pc' := 30) rfl (hb hby d_prog_30_method_5_code_27) (XT.i0_ne_f c27_4) ?_
      refine own_dconst0 X3 hx (v := FP.dconst0) (pc' := 31) rfl (hb hby d_prog_30_method_5_code_30) rfl ?_
      refine own_goto X3 hx (pc' := 40) (hb hby d_prog_30_method_5_code_31) (by decide) (by decide) ?_
      refine own_dstore X3 hx (Ls' := #[.val (.ref a1), .val (.double FP.dconst0), .second, .val (.double FP.dconst1), .second, .val (.double FP.dconst0), .second, .val (.double FP.dconst0), .second]) (pc' := 42) rfl (hb hby d_prog_30_method_5_code_40) rfl ?_
      refine own_dload X3 hx (pc' := 44) rfl (hb hby d_prog_30_method_5_code_42) rfl ?_
      refine own_dload X3 hx (pc' := 46) rfl (hb hby d_prog_30_method_5_code_44) rfl ?_
      refine own_dadd X3 hx (v := (FP.dadd FP.dconst0 FP.dconst0)) (pc' := 47) rfl (hb hby d_prog_30_method_5_code_46) (Jvm.Free.Fl.dadd_out' (fin64_core.mpr own_z0.fin) (fin64_core.mpr own_z0.fin).noNaN) rfl ?_
      refine own_dret X3 hx hlk hret (hb hby d_prog_30_method_5_code_47) (by decide) (by decide) ?_
      rw [e3]
      exact ⟨_, rfl, own_add' (Or.inl ⟨(own_cz hk).mp c27_4, own_z0⟩ : own_Q y FP.dconst0) own_z0, N0, rfl⟩
    · refine own_ifT X3 hx (pc' := 34) (hb hby d_prog_30_method_5_code_27) (XT.i0_ne_t c27_4) (by decide) (by decide) ?_
      refine own_aloadN X3 hx (pc' := 35) rfl (hb hby d_prog_30_method_5_code_34) rfl rfl ?_
      refine own_getF X3 hx hZ hown (host := "") (Or.inl (hw _ (List.mem_of_getElem? (i := 20) rfl))) Via.refl e3 I2 (pc' := 38) rfl (hb hby d_prog_30_method_5_code_35) ?_
      intro T5 X5 e5
      refine own_dloadN X5 hx (pc' := 39) rfl (hb hby d_prog_30_method_5_code_38) rfl ?_
      refine own_dmul X5 hx (v := fk) (pc' := 40) rfl (hb hby d_prog_30_method_5_code_39) (by rw [own_one (own_fin hk)]; exact own_nn (own_fin hk)) (own_one (own_fin hk)) ?_
      refine own_dstore X5 hx (Ls' := #[.val (.ref a1), .val (.double FP.dconst0), .second, .val (.double FP.dconst1), .second, .val (.double FP.dconst0), .second, .val (.double fk), .second]) (pc' := 42) rfl (hb hby d_prog_30_method_5_code_40) rfl ?_
      refine own_dload X5 hx (pc' := 44) rfl (hb hby d_prog_30_method_5_code_42) rfl ?_
      refine own_dload X5 hx (pc' := 46) rfl (hb hby d_prog_30_method_5_code_44) rfl ?_
      refine own_dadd X5 hx (v := (FP.dadd FP.dconst0 fk)) (pc' := 47) rfl (hb hby d_prog_30_method_5_code_46) (Jvm.Free.Fl.dadd_out' (fin64_core.mpr own_z0.fin) (fin64_core.mpr (own_fin hk)).noNaN) rfl ?_
      refine own_dret X5 hx hlk hret (hb hby d_prog_30_method_5_code_47) (by decide) (by decide) ?_
      rw [e5]
      exact ⟨_, rfl, own_add' hk own_z0, N0, rfl⟩
  · refine own_ifT X1 hx (pc' := 13) (hb hby d_prog_30_method_5_code_6) (XT.i0_ne_t c6_2) (by decide) (by decide) ?_
    refine own_aloadN X1 hx (pc' := 14) rfl (hb hby d_prog_30_method_5_code_13) rfl rfl ?_
    refine own_getF X1 hx hZ hown (host := "") (Or.inl (hw _ (List.mem_of_getElem? (i := 18) rfl))) Via.refl e1 I1 (pc' := 17) rfl (hb hby d_prog_30_method_5_code_14) ?_
    intro T6 X6 e6
    refine own_dloadN X6 hx (pc' := 18) rfl (hb hby d_prog_30_method_5_code_17) rfl ?_
    refine own_dmul X6 hx (v := (FP.dmul fc FP.dconst0)) (pc' := 19) rfl (hb hby d_prog_30_method_5_code_18) (own_nn (own_mz (own_fin hc)).fin) rfl ?_
    refine own_dstore X6 hx (Ls' := #[.val (.ref a1), .val (.double FP.dconst0), .second, .val (.double FP.dconst1), .second, .val (.double (FP.dmul fc FP.dconst0)), .second, .unset, .unset]) (pc' := 21) rfl (hb hby d_prog_30_method_5_code_19) rfl ?_
    refine own_aloadN X6 hx (pc' := 22) rfl (hb hby d_prog_30_method_5_code_21) rfl rfl ?_
    refine own_getF X6 hx hZ hown (host := "") (Or.inl (hw _ (List.mem_of_getElem? (i := 20) rfl))) Via.refl e6 I2 (pc' := 25) rfl (hb hby d_prog_30_method_5_code_22) ?_
    intro T7 X7 e7
    refine own_dconst0 X7 hx (v := FP.dconst0) (pc' := 26) rfl (hb hby d_prog_30_method_5_code_25) rfl ?_
    refine own_dcmp X7 hx (v := (cmpValue (FP.dcmp fk FP.dconst0) .l)) (pc' := 27) rfl (hb hby d_prog_30_method_5_code_26) rfl ?_
    by_cases c27_8 : (cmpValue (FP.dcmp fk FP.dconst0) .l) = 0
    · refine own_ifF X7 hx (pc' := 30) rfl (hb hby d_prog_30_method_5_code_27) (XT.i0_ne_f c27_8) ?_
      refine own_dconst0 X7 hx (v := FP.dconst0) (pc' := 31) rfl (hb hby d_prog_30_method_5_code_30) rfl ?_
      refine own_goto X7 hx (pc' := 40) (hb hby d_prog_30_method_5_code_31) (by decide) (by decide) ?_
      refine own_dstore X7 hx (Ls' := #[.val (.ref a1), .val (.double FP.dconst0), .second, .val (.double FP.dconst1), .second, .val (.double (FP.dmul fc FP.dconst0)), .second, .val (.double FP.dconst0), .second]) (pc' := 42) rfl (hb hby d_prog_30_method_5_code_40) rfl ?_
      refine own_dload X7 hx (pc' := 44) rfl (hb hby d_prog_30_method_5_code_42) rfl ?_
      refine own_dload X7 hx (pc' := 46) rfl (hb hby d_prog_30_method_5_code_44) rfl ?_
      refine own_dadd X7 hx (v := (FP.dadd (FP.dmul fc FP.dconst0) FP.dconst0)) (pc' := 47) rfl (hb hby d_prog_30_method_5_code_46) (Jvm.Free.Fl.dadd_out' (fin64_core.mpr (own_mz (own_fin hc)).fin) (fin64_core.mpr own_z0.fin).noNaN) rfl ?_
      refine own_dret X7 hx hlk hret (hb hby d_prog_30_method_5_code_47) (by decide) (by decide) ?_
      rw [e7]
      exact ⟨_, rfl, own_add' (Or.inl ⟨(own_cz hk).mp c27_8, own_z0⟩ : own_Q y FP.dconst0) (own_mz (own_fin hc)), N0, rfl⟩
    · refine own_ifT X7 hx (pc' := 34) (hb hby d_prog_30_method_5_code_27) (XT.i0_ne_t c27_8) (by decide) (by decide) ?_
      refine own_aloadN X7 hx (pc' := 35) rfl (hb hby d_prog_30_method_5_code_34) rfl rfl ?_
      refine own_getF X7 hx hZ hown (host := "") (Or.inl (hw _ (List.mem_of_getElem? (i := 20) rfl))) Via.refl e7 I2 (pc' := 38) rfl (hb hby d_prog_30_method_5_code_35) ?_
      intro T9 X9 e9
      refine own_dloadN X9 hx (pc' := 39) rfl (hb hby d_prog_30_method_5_code_38) rfl ?_
      refine own_dmul X9 hx (v := fk) (pc' := 40) rfl (hb hby d_prog_30_method_5_code_39) (by rw [own_one (own_fin hk)]; exact own_nn (own_fin hk)) (own_one (own_fin hk)) ?_
      refine own_dstore X9 hx (Ls' := #[.val (.ref a1), .val (.double FP.dconst0), .second, .val (.double FP.dconst1), .second, .val (.double (FP.dmul fc FP.dconst0)), .second, .val (.double fk), .second]) (pc' := 42) rfl (hb hby d_prog_30_method_5_code_40) rfl ?_
      refine own_dload X9 hx (pc' := 44) rfl (hb hby d_prog_30_method_5_code_42) rfl ?_
      refine own_dload X9 hx (pc' := 46) rfl (hb hby d_prog_30_method_5_code_44) rfl ?_
      refine own_dadd X9 hx (v := (FP.dadd (FP.dmul fc FP.dconst0) fk)) (pc' := 47) rfl (hb hby d_prog_30_method_5_code_46) (Jvm.Free.Fl.dadd_out' (fin64_core.mpr (own_mz (own_fin hc)).fin) (fin64_core.mpr (own_fin hk)).noNaN) rfl ?_
      refine own_dret X9 hx hlk hret (hb hby d_prog_30_method_5_code_47) (by decide) (by decide) ?_
      rw [e9]
      exact ⟨_, rfl, own_add' hk (own_mz (own_fin hc)), N0, rfl⟩
def own_sel (fl a b : Int32) : Int32 := if (fl &&& b) = 0 then a else 0
theorem own_two {x y : Int32} {r q : UInt64} (h1 : own_Q x r) (h2 : own_Q y q) (c1 : cmpValue (FP.dcmp r FP.dconst0) .l = 0) (c2 : cmpValue (FP.dcmp q FP.dconst0) .l = 0) : own_none x y = (1 : Int32) := by
  unfold own_none; rw [if_pos ((own_cz h1).mp c1), if_pos ((own_cz h2).mp c2)]
theorem own_no1 {x y : Int32} {r : UInt64} (h1 : own_Q x r) (c1 : ¬ cmpValue (FP.dcmp r FP.dconst0) .l = 0) : own_none x y = (0 : Int32) := by
  unfold own_none; rw [if_neg (fun z => c1 ((own_cz h1).mpr z))]
theorem own_no2 {x y : Int32} {q : UInt64} (h2 : own_Q y q) (c2 : ¬ cmpValue (FP.dcmp q FP.dconst0) .l = 0) : own_none x y = (0 : Int32) := by
  unfold own_none; rw [if_neg (fun z => c2 ((own_cz h2).mpr z)), ite_self]
theorem own_e11 {x y : Int32} (a : x = 0) (b : y = 0) : own_none x y = (1 : Int32) := by unfold own_none; rw [if_pos a, if_pos b]
theorem own_e0x {x y : Int32} (a : ¬ x = 0) : own_none x y = (0 : Int32) := by unfold own_none; rw [if_neg a]
theorem own_e0y {x y : Int32} (b : ¬ y = 0) : own_none x y = (0 : Int32) := by unfold own_none; rw [if_neg b, ite_self]
theorem ef_rm_law (m : MethodId) (p1 : Int32) (p2 : Int32) (p3 : Int32) : entryFrame m #[(.int p1), (.int p2), (.int p3)] maxLocals = mkF m 0 #[.val (.int p1), .val (.int p2), .val (.int p3), .unset, .unset, .unset, .unset, .unset, .unset, .unset, .unset, .unset, .unset] [] := by first | (simp [entryFrame, mkF, argsToLocals, Value.category, maxLocals]; done) | rfl
def K_rm_law  (Z : State) (h0 : Heap) (n0 : Nat) (p1 : Int32) (p2 : Int32) (p3 : Int32) (v : Option Value) (h : Heap) (L : List Loc) : Prop := v = some (.int 1) ∧ Fr n0 L
theorem pd__II_D : parseMethodDescriptor "(II)D" = some ⟨[.int, .int], some .double⟩ := by decide +kernel
theorem pd__DD_V : parseMethodDescriptor "(DD)V" = some ⟨[.double, .double], none⟩ := by decide +kernel
theorem pd___Z : parseMethodDescriptor "()Z" = some ⟨[], some .boolean⟩ := by decide +kernel
theorem pd__DD_D : parseMethodDescriptor "(DD)D" = some ⟨[.double, .double], some .double⟩ := by decide +kernel
set_option maxRecDepth 65536 in
set_option maxHeartbeats 40000000 in
theorem rm_law (l : Launch) (Z : State) (a0 : Array Value) (hw : ∀ d ∈ tables_1, d.before a0 Z = true) (ws : List Jvm.Cond)  (p1 : Int32) (p2 : Int32) (p3 : Int32) (h0 : Heap) (n0 : Nat) (Z0 : n0 ≤ h0.size) :
    MetFree l x (head1 (Jvm.Cond.code x code maxLocals ret :: ws) room_1) (fun a U => a = #[(.int p1), (.int p2), (.int p3)] ∧ Z.Warmed39 U.vm ∧ U.heap = h0) (fun _ _ _ _ _ => True) (fun _ U o U' => ∃ v L, o = .returned v ∧ (K_rm_law  Z h0 n0 p1 p2 p3) v U'.heap L ∧ FrameEnd U o U' L room_1.cells room_1.slots) := by
  refine own_body (plainFor_of_name pn_com_example_tranchery_tranchery_solve_WeighingIsNonePinLaw) ?_
  intro p e s m below meth c s₁ hx hby hml hown hnm hret hlk hZ X0 e0
  have hown : s.vm.findClass "com/example/tranchery/tranchery/solve/WeighingIsNonePinLaw" = some m.cls := hown
  have N0 := Fr.nil n0
  rw [ef_rm_law m p1 p2 p3]
  suffices hj1 : own_Goes p e below s₁ (mkF m 12 #[.val (.int p1), .val (.int p2), .val (.int p3), .val (.int (own_sel p3 p1 (1 : Int32))), .unset, .unset, .unset, .unset, .unset, .unset, .unset, .unset, .unset] []) (own_Ret s (K_rm_law  Z h0 n0 p1 p2 p3) room_1.cells room_1.slots) by
    refine own_iloadN X0 hx (pc' := 1) rfl (hb hby at_0) rfl ?_
    refine own_iconst X0 hx (v := (1 : Int32)) (pc' := 2) rfl (hb hby at_1) rfl ?_
    refine own_iand X0 hx (v := (p3 &&& (1 : Int32))) (pc' := 3) rfl (hb hby at_2) rfl ?_
    by_cases c3_2 : (p3 &&& (1 : Int32)) = 0
    · refine own_ifT X0 hx (pc' := 10) (hb hby at_3) (XT.i0_eq_t c3_2) (by decide) (by decide) ?_
      refine own_iloadN X0 hx (pc' := 11) rfl (hb hby at_10) rfl ?_
      refine own_istoreN X0 hx (Ls' := #[.val (.int p1), .val (.int p2), .val (.int p3), .val (.int p1), .unset, .unset, .unset, .unset, .unset, .unset, .unset, .unset, .unset]) (pc' := 12) rfl (hb hby at_11) rfl ?_
      rw [show (own_sel p3 p1 (1 : Int32)) = p1 from by first | (simp only [own_sel, if_pos c3_2]; done) | (simp only [own_sel, if_pos c3_2]; rfl)] at hj1
      exact hj1
    · refine own_ifF X0 hx (pc' := 6) rfl (hb hby at_3) (XT.i0_eq_f c3_2) ?_
      refine own_iconst X0 hx (v := (0 : Int32)) (pc' := 7) rfl (hb hby at_6) rfl ?_
      refine own_goto X0 hx (pc' := 11) (hb hby at_7) (by decide) (by decide) ?_
      refine own_istoreN X0 hx (Ls' := #[.val (.int p1), .val (.int p2), .val (.int p3), .val (.int (0 : Int32)), .unset, .unset, .unset, .unset, .unset, .unset, .unset, .unset, .unset]) (pc' := 12) rfl (hb hby at_11) rfl ?_
      rw [show (own_sel p3 p1 (1 : Int32)) = (0 : Int32) from by first | (simp only [own_sel, if_neg c3_2]; done) | (simp only [own_sel, if_neg c3_2]; rfl)] at hj1
      exact hj1
  suffices hj3 : own_Goes p e below s₁ (mkF m 25 #[.val (.int p1), .val (.int p2), .val (.int p3), .val (.int (own_sel p3 p1 (1 : Int32))), .val (.int (own_sel p3 p2 (2 : Int32))), .unset, .unset, .unset, .unset, .unset, .unset, .unset, .unset] []) (own_Ret s (K_rm_law  Z h0 n0 p1 p2 p3) room_1.cells room_1.slots) by
    refine own_iloadN X0 hx (pc' := 13) rfl (hb hby at_12) rfl ?_
    refine own_iconst X0 hx (v := (2 : Int32)) (pc' := 14) rfl (hb hby at_13) rfl ?_
    refine own_iand X0 hx (v := (p3 &&& (2 : Int32))) (pc' := 15) rfl (hb hby at_14) rfl ?_
    by_cases c15_4 : (p3 &&& (2 : Int32)) = 0
    · refine own_ifT X0 hx (pc' := 22) (hb hby at_15) (XT.i0_eq_t c15_4) (by decide) (by decide) ?_
      refine own_iloadN X0 hx (pc' := 23) rfl (hb hby at_22) rfl ?_
      refine own_istore X0 hx (Ls' := #[.val (.int p1), .val (.int p2), .val (.int p3), .val (.int (own_sel p3 p1 (1 : Int32))), .val (.int p2), .unset, .unset, .unset, .unset, .unset, .unset, .unset, .unset]) (pc' := 25) rfl (hb hby at_23) rfl ?_
      rw [show (own_sel p3 p2 (2 : Int32)) = p2 from by first | (simp only [own_sel, if_pos c15_4]; done) | (simp only [own_sel, if_pos c15_4]; rfl)] at hj3
      exact hj3
    · refine own_ifF X0 hx (pc' := 18) rfl (hb hby at_15) (XT.i0_eq_f c15_4) ?_
      refine own_iconst X0 hx (v := (0 : Int32)) (pc' := 19) rfl (hb hby at_18) rfl ?_
      refine own_goto X0 hx (pc' := 23) (hb hby at_19) (by decide) (by decide) ?_
      refine own_istore X0 hx (Ls' := #[.val (.int p1), .val (.int p2), .val (.int p3), .val (.int (own_sel p3 p1 (1 : Int32))), .val (.int (0 : Int32)), .unset, .unset, .unset, .unset, .unset, .unset, .unset, .unset]) (pc' := 25) rfl (hb hby at_23) rfl ?_
      rw [show (own_sel p3 p2 (2 : Int32)) = (0 : Int32) from by first | (simp only [own_sel, if_neg c15_4]; done) | (simp only [own_sel, if_neg c15_4]; rfl)] at hj3
      exact hj3
  generalize (own_sel p3 p1 (1 : Int32)) = xx
  generalize (own_sel p3 p2 (2 : Int32)) = yy
  refine own_iloadN X0 hx (pc' := 26) rfl (hb hby at_25) rfl ?_
  refine own_iloadN X0 hx (pc' := 27) rfl (hb hby at_26) rfl ?_
  refine own_iconst X0 hx (v := (2 : Int32)) (pc' := 28) rfl (hb hby at_27) rfl ?_
  refine own_iushr X0 hx (v := (XT.ushr p3 (2 : Int32))) (pc' := 29) rfl (hb hby at_28) rfl ?_
  refine own_callS X0 hx hZ (y := (⟨"com/example/tranchery/tranchery/solve/WeighingIsNonePinLaw", "draw", "(II)D"⟩ : MethodName)) hown (hw _ (List.mem_of_getElem? (i := 0) rfl)) (hw _ (List.mem_of_getElem? (i := 1) rfl)) (hw _ (List.mem_of_getElem? (i := 2) rfl)) (hw _ (List.mem_of_getElem? (i := 3) rfl))  (by decide) (rm_draw l Z a0 hw [] xx (XT.ushr p3 (2 : Int32)) h0 n0 Z0) (by decide) (W := 0) (by decide) (by decide) (by decide) e0 (by rw [hml]; rfl) (argsL := [(.int xx), (.int (XT.ushr p3 (2 : Int32)))]) (rest := []) rfl (lenOf pd__II_D rfl) rfl (Nat.le_of_eq rfl) (pc' := 32) rfl (hb hby at_29) ?_
  rintro _ T5 L5 X5 ⟨r5, rfl, hr5, N5, e5⟩
  have M5 := Fr.app N0 N5
  show own_Goes p e below T5 (mkF m 32 #[.val (.int p1), .val (.int p2), .val (.int p3), .val (.int xx), .val (.int yy), .unset, .unset, .unset, .unset, .unset, .unset, .unset, .unset] [(.double r5)]) _
  refine own_dstore X5 hx (Ls' := #[.val (.int p1), .val (.int p2), .val (.int p3), .val (.int xx), .val (.int yy), .val (.double r5), .second, .unset, .unset, .unset, .unset, .unset, .unset]) (pc' := 34) rfl (hb hby at_32) rfl ?_
  refine own_iload X5 hx (pc' := 36) rfl (hb hby at_34) rfl ?_
  refine own_iloadN X5 hx (pc' := 37) rfl (hb hby at_36) rfl ?_
  refine own_iconst X5 hx (v := (4 : Int32)) (pc' := 38) rfl (hb hby at_37) rfl ?_
  refine own_iushr X5 hx (v := (XT.ushr p3 (4 : Int32))) (pc' := 39) rfl (hb hby at_38) rfl ?_
  refine own_callS X5 hx hZ (y := (⟨"com/example/tranchery/tranchery/solve/WeighingIsNonePinLaw", "draw", "(II)D"⟩ : MethodName)) hown (hw _ (List.mem_of_getElem? (i := 0) rfl)) (hw _ (List.mem_of_getElem? (i := 1) rfl)) (hw _ (List.mem_of_getElem? (i := 2) rfl)) (hw _ (List.mem_of_getElem? (i := 3) rfl))  (by decide) (rm_draw l Z a0 hw [] yy (XT.ushr p3 (4 : Int32)) h0 n0 Z0) (by decide) (W := 0) (by decide) (by decide) (by decide) e5 (by rw [hml]; rfl) (argsL := [(.int yy), (.int (XT.ushr p3 (4 : Int32)))]) (rest := []) rfl (lenOf pd__II_D rfl) rfl (Nat.le_of_eq rfl) (pc' := 42) rfl (hb hby at_39) ?_
  rintro _ T6 L6 X6 ⟨r6, rfl, hr6, N6, e6⟩
  have M6 := Fr.app M5 N6
  show own_Goes p e below T6 (mkF m 42 #[.val (.int p1), .val (.int p2), .val (.int p3), .val (.int xx), .val (.int yy), .val (.double r5), .second, .unset, .unset, .unset, .unset, .unset, .unset] [(.double r6)]) _
  refine own_dstore X6 hx (Ls' := #[.val (.int p1), .val (.int p2), .val (.int p3), .val (.int xx), .val (.int yy), .val (.double r5), .second, .val (.double r6), .second, .unset, .unset, .unset, .unset]) (pc' := 44) rfl (hb hby at_42) rfl ?_
  have hr_x := hr5
  have hr_y := hr6
  refine own_new X6 hx hZ hown (hw _ (List.mem_of_getElem? (i := 4) rfl)) (hw _ (List.mem_of_getElem? (i := 5) rfl)) (hw _ (List.mem_of_getElem? (i := 6) rfl)) e6 (pc' := 47) rfl (hb hby at_44) (by decide) (by decide) ?_
  intro T7 h7 X7 e7 E7 A7 D7
  obtain ⟨o7, g7⟩ : ∃ z, z = h0.size := ⟨_, rfl⟩
  rw [← g7] at A7 D7 ⊢
  have ge7 : n0 ≤ o7 := g7 ▸ Z0
  have Siz_8 := Nat.le_trans Z0 E7.1
  have F9 : Fld Z h7 o7 "com/example/tranchery/tranchery/solve/Aim$Weighing" "contractor" "D" (.double (0 : UInt64)) := D7 (Or.inr (hw _ (List.mem_of_getElem? (i := 19) rfl))) (ty := .double) (by decide)
  have F10 : Fld Z h7 o7 "com/example/tranchery/tranchery/solve/Aim$Weighing" "client" "D" (.double (0 : UInt64)) := D7 (Or.inr (hw _ (List.mem_of_getElem? (i := 21) rfl))) (ty := .double) (by decide)
  refine own_dup X7 hx (pc' := 48) rfl (hb hby at_47) rfl ?_
  refine own_dload X7 hx (pc' := 50) rfl (hb hby at_48) rfl ?_
  refine own_dload X7 hx (pc' := 52) rfl (hb hby at_50) rfl ?_
  refine own_callC X7 hx hZ (y := (⟨"com/example/tranchery/tranchery/solve/Aim$Weighing", "<init>", "(DD)V"⟩ : MethodName)) rfl hown (hw _ (List.mem_of_getElem? (i := 7) rfl)) (hw _ (List.mem_of_getElem? (i := 8) rfl)) (hw _ (List.mem_of_getElem? (i := 6) rfl)) (hw _ (List.mem_of_getElem? (i := 9) rfl))  (by decide) (rm_ctor l Z a0 hw [] o7 r5 r6 h7 n0 Siz_8 A7 F9 F10 ge7) (by decide) (W := 1) (by decide) (by decide) (by decide) e7 (by rw [hml]; rfl) (argsL := [(.double r5), (.double r6)]) (rest := [(.ref o7)]) rfl (lenOf pd__DD_V rfl) rfl (Nat.le_of_eq rfl) (pc' := 55) rfl (hb hby at_52) ?_
  rintro _ T11 L11 X11 ⟨rfl, N11, K11, G11_0, G11_1, G11_2⟩
  have M11 := Fr.app M6 N11
  obtain ⟨h11, e11⟩ : ∃ z, T11.heap = z := ⟨_, rfl⟩
  rw [e11] at K11 G11_0 G11_1 G11_2
  have Siz_12 := Nat.le_trans Siz_8 K11.1
  have Exa_13 := A7.keep K11
  show own_Goes p e below T11 (mkF m 55 #[.val (.int p1), .val (.int p2), .val (.int p3), .val (.int xx), .val (.int yy), .val (.double r5), .second, .val (.double r6), .second, .unset, .unset, .unset, .unset] [(.ref o7)]) _
  refine own_astore X11 hx (Ls' := #[.val (.int p1), .val (.int p2), .val (.int p3), .val (.int xx), .val (.int yy), .val (.double r5), .second, .val (.double r6), .second, .val (.ref o7), .unset, .unset, .unset]) (pc' := 57) rfl (hb hby at_55) rfl rfl ?_
  refine own_aload X11 hx (pc' := 59) rfl (hb hby at_57) rfl rfl ?_
  refine own_callV X11 hx hZ (y := (⟨"com/example/tranchery/tranchery/solve/Aim$Weighing", "isNone", "()Z"⟩ : MethodName)) hown (hw _ (List.mem_of_getElem? (i := 22) rfl)) (hw _ (List.mem_of_getElem? (i := 23) rfl)) (hw _ (List.mem_of_getElem? (i := 25) rfl)) (hw _ (List.mem_of_getElem? (i := 24) rfl)) (hw _ (List.mem_of_getElem? (i := 6) rfl)) (hw _ (List.mem_of_getElem? (i := 26) rfl)) Exa_13  (by decide) (rm_none l Z a0 hw [] r5 r6 xx yy o7 h11 n0 Siz_12 Exa_13 G11_1 G11_2 hr_x hr_y) (by decide) (W := 0) (by decide) (by decide) (by decide) e11 (by rw [hml]; rfl) (argsL := []) (rest := []) rfl (lenOf pd___Z rfl) rfl (Nat.le_of_eq rfl) (pc' := 62) rfl (hb hby at_59) ?_
  rintro _ T16 L16 X16 ⟨rfl, N16, e16⟩
  have M16 := Fr.app M11 N16
  show own_Goes p e below T16 (mkF m 62 #[.val (.int p1), .val (.int p2), .val (.int p3), .val (.int xx), .val (.int yy), .val (.double r5), .second, .val (.double r6), .second, .val (.ref o7), .unset, .unset, .unset] [(.int (own_none xx yy))]) _
  refine own_istore X16 hx (Ls' := #[.val (.int p1), .val (.int p2), .val (.int p3), .val (.int xx), .val (.int yy), .val (.double r5), .second, .val (.double r6), .second, .val (.ref o7), .val (.int (own_none xx yy)), .unset, .unset]) (pc' := 64) rfl (hb hby at_62) rfl ?_
  refine own_iloadN X16 hx (pc' := 65) rfl (hb hby at_64) rfl ?_
  by_cases c65_17 : xx = 0
  · refine own_ifF X16 hx (pc' := 68) rfl (hb hby at_65) (XT.i0_ne_f c65_17) ?_
    refine own_iload X16 hx (pc' := 70) rfl (hb hby at_68) rfl ?_
    by_cases c70_18 : yy = 0
    · refine own_ifF X16 hx (pc' := 73) rfl (hb hby at_70) (XT.i0_ne_f c70_18) ?_
      refine own_iconst X16 hx (v := (1 : Int32)) (pc' := 74) rfl (hb hby at_73) rfl ?_
      refine own_goto X16 hx (pc' := 78) (hb hby at_74) (by decide) (by decide) ?_
      refine own_istore X16 hx (Ls' := #[.val (.int p1), .val (.int p2), .val (.int p3), .val (.int xx), .val (.int yy), .val (.double r5), .second, .val (.double r6), .second, .val (.ref o7), .val (.int (own_none xx yy)), .val (.int (1 : Int32)), .unset]) (pc' := 80) rfl (hb hby at_78) rfl ?_
      refine own_aload X16 hx (pc' := 82) rfl (hb hby at_80) rfl rfl ?_
      refine own_dconst1 X16 hx (v := FP.dconst1) (pc' := 83) rfl (hb hby at_82) rfl ?_
      refine own_dconst0 X16 hx (v := FP.dconst0) (pc' := 84) rfl (hb hby at_83) rfl ?_
      refine own_callV X16 hx hZ (y := (⟨"com/example/tranchery/tranchery/solve/Aim$Weighing", "of", "(DD)D"⟩ : MethodName)) hown (hw _ (List.mem_of_getElem? (i := 27) rfl)) (hw _ (List.mem_of_getElem? (i := 28) rfl)) (hw _ (List.mem_of_getElem? (i := 30) rfl)) (hw _ (List.mem_of_getElem? (i := 29) rfl)) (hw _ (List.mem_of_getElem? (i := 6) rfl)) (hw _ (List.mem_of_getElem? (i := 31) rfl)) Exa_13  (by decide) (rm_of10 l Z a0 hw [] r5 r6 xx yy o7 h11 n0 Siz_12 Exa_13 G11_1 G11_2 hr_x hr_y) (by decide) (W := 0) (by decide) (by decide) (by decide) e16 (by rw [hml]; rfl) (argsL := [(.double FP.dconst1), (.double FP.dconst0)]) (rest := []) rfl (lenOf pd__DD_D rfl) rfl (Nat.le_of_eq rfl) (pc' := 87) rfl (hb hby at_84) ?_
      rintro _ T19 L19 X19 ⟨r19, rfl, hr19, N19, e19⟩
      have M19 := Fr.app M16 N19
      show own_Goes p e below T19 (mkF m 87 #[.val (.int p1), .val (.int p2), .val (.int p3), .val (.int xx), .val (.int yy), .val (.double r5), .second, .val (.double r6), .second, .val (.ref o7), .val (.int (own_none xx yy)), .val (.int (1 : Int32)), .unset] [(.double r19)]) _
      refine own_dconst0 X19 hx (v := FP.dconst0) (pc' := 88) rfl (hb hby at_87) rfl ?_
      refine own_dcmp X19 hx (v := (cmpValue (FP.dcmp r19 FP.dconst0) .l)) (pc' := 89) rfl (hb hby at_88) rfl ?_
      by_cases c89_20 : (cmpValue (FP.dcmp r19 FP.dconst0) .l) = 0
      · refine own_ifF X19 hx (pc' := 92) rfl (hb hby at_89) (XT.i0_ne_f c89_20) ?_
        refine own_aload X19 hx (pc' := 94) rfl (hb hby at_92) rfl rfl ?_
        refine own_dconst0 X19 hx (v := FP.dconst0) (pc' := 95) rfl (hb hby at_94) rfl ?_
        refine own_dconst1 X19 hx (v := FP.dconst1) (pc' := 96) rfl (hb hby at_95) rfl ?_
        refine own_callV X19 hx hZ (y := (⟨"com/example/tranchery/tranchery/solve/Aim$Weighing", "of", "(DD)D"⟩ : MethodName)) hown (hw _ (List.mem_of_getElem? (i := 27) rfl)) (hw _ (List.mem_of_getElem? (i := 28) rfl)) (hw _ (List.mem_of_getElem? (i := 30) rfl)) (hw _ (List.mem_of_getElem? (i := 29) rfl)) (hw _ (List.mem_of_getElem? (i := 6) rfl)) (hw _ (List.mem_of_getElem? (i := 31) rfl)) Exa_13  (by decide) (rm_of01 l Z a0 hw [] r5 r6 xx yy o7 h11 n0 Siz_12 Exa_13 G11_1 G11_2 hr_x hr_y) (by decide) (W := 0) (by decide) (by decide) (by decide) e19 (by rw [hml]; rfl) (argsL := [(.double FP.dconst0), (.double FP.dconst1)]) (rest := []) rfl (lenOf pd__DD_D rfl) rfl (Nat.le_of_eq rfl) (pc' := 99) rfl (hb hby at_96) ?_
        rintro _ T21 L21 X21 ⟨r21, rfl, hr21, N21, e21⟩
        have M21 := Fr.app M19 N21
        show own_Goes p e below T21 (mkF m 99 #[.val (.int p1), .val (.int p2), .val (.int p3), .val (.int xx), .val (.int yy), .val (.double r5), .second, .val (.double r6), .second, .val (.ref o7), .val (.int (own_none xx yy)), .val (.int (1 : Int32)), .unset] [(.double r21)]) _
        refine own_dconst0 X21 hx (v := FP.dconst0) (pc' := 100) rfl (hb hby at_99) rfl ?_
        refine own_dcmp X21 hx (v := (cmpValue (FP.dcmp r21 FP.dconst0) .l)) (pc' := 101) rfl (hb hby at_100) rfl ?_
        by_cases c101_22 : (cmpValue (FP.dcmp r21 FP.dconst0) .l) = 0
        · refine own_ifF X21 hx (pc' := 104) rfl (hb hby at_101) (XT.i0_ne_f c101_22) ?_
          refine own_iconst X21 hx (v := (1 : Int32)) (pc' := 105) rfl (hb hby at_104) rfl ?_
          refine own_goto X21 hx (pc' := 109) (hb hby at_105) (by decide) (by decide) ?_
          refine own_istore X21 hx (Ls' := #[.val (.int p1), .val (.int p2), .val (.int p3), .val (.int xx), .val (.int yy), .val (.double r5), .second, .val (.double r6), .second, .val (.ref o7), .val (.int (own_none xx yy)), .val (.int (1 : Int32)), .val (.int (1 : Int32))]) (pc' := 111) rfl (hb hby at_109) rfl ?_
          refine own_iload X21 hx (pc' := 113) rfl (hb hby at_111) rfl ?_
          refine own_iload X21 hx (pc' := 115) rfl (hb hby at_113) rfl ?_
          refine own_icmpF X21 hx (pc' := 118) rfl (hb hby at_115) (XT.ii_ne_f (own_e11 c65_17 c70_18)) ?_
          refine own_iload X21 hx (pc' := 120) rfl (hb hby at_118) rfl ?_
          refine own_iload X21 hx (pc' := 122) rfl (hb hby at_120) rfl ?_
          refine own_icmpF X21 hx (pc' := 125) rfl (hb hby at_122) (XT.ii_ne_f (own_two hr19 hr21 c89_20 c101_22)) ?_
          refine own_iconst X21 hx (v := (1 : Int32)) (pc' := 126) rfl (hb hby at_125) rfl ?_
          refine own_goto X21 hx (pc' := 130) (hb hby at_126) (by decide) (by decide) ?_
          refine own_zret X21 hx hlk hret (by simp) (hb hby at_130) (by decide) (by decide) ?_
          rw [e21]
          exact ⟨rfl, M21⟩
        · refine own_ifT X21 hx (pc' := 108) (hb hby at_101) (XT.i0_ne_t c101_22) (by decide) (by decide) ?_
          refine own_iconst X21 hx (v := (0 : Int32)) (pc' := 109) rfl (hb hby at_108) rfl ?_
          refine own_istore X21 hx (Ls' := #[.val (.int p1), .val (.int p2), .val (.int p3), .val (.int xx), .val (.int yy), .val (.double r5), .second, .val (.double r6), .second, .val (.ref o7), .val (.int (own_none xx yy)), .val (.int (1 : Int32)), .val (.int (0 : Int32))]) (pc' := 111) rfl (hb hby at_109) rfl ?_
          refine own_iload X21 hx (pc' := 113) rfl (hb hby at_111) rfl ?_
          refine own_iload X21 hx (pc' := 115) rfl (hb hby at_113) rfl ?_
          refine own_icmpF X21 hx (pc' := 118) rfl (hb hby at_115) (XT.ii_ne_f (own_e11 c65_17 c70_18)) ?_
          refine own_iload X21 hx (pc' := 120) rfl (hb hby at_118) rfl ?_
          refine own_iload X21 hx (pc' := 122) rfl (hb hby at_120) rfl ?_
          refine own_icmpF X21 hx (pc' := 125) rfl (hb hby at_122) (XT.ii_ne_f (own_no2 hr21 c101_22)) ?_
          refine own_iconst X21 hx (v := (1 : Int32)) (pc' := 126) rfl (hb hby at_125) rfl ?_
          refine own_goto X21 hx (pc' := 130) (hb hby at_126) (by decide) (by decide) ?_
          refine own_zret X21 hx hlk hret (by simp) (hb hby at_130) (by decide) (by decide) ?_
          rw [e21]
          exact ⟨rfl, M21⟩
      · refine own_ifT X19 hx (pc' := 108) (hb hby at_89) (XT.i0_ne_t c89_20) (by decide) (by decide) ?_
        refine own_iconst X19 hx (v := (0 : Int32)) (pc' := 109) rfl (hb hby at_108) rfl ?_
        refine own_istore X19 hx (Ls' := #[.val (.int p1), .val (.int p2), .val (.int p3), .val (.int xx), .val (.int yy), .val (.double r5), .second, .val (.double r6), .second, .val (.ref o7), .val (.int (own_none xx yy)), .val (.int (1 : Int32)), .val (.int (0 : Int32))]) (pc' := 111) rfl (hb hby at_109) rfl ?_
        refine own_iload X19 hx (pc' := 113) rfl (hb hby at_111) rfl ?_
        refine own_iload X19 hx (pc' := 115) rfl (hb hby at_113) rfl ?_
        refine own_icmpF X19 hx (pc' := 118) rfl (hb hby at_115) (XT.ii_ne_f (own_e11 c65_17 c70_18)) ?_
        refine own_iload X19 hx (pc' := 120) rfl (hb hby at_118) rfl ?_
        refine own_iload X19 hx (pc' := 122) rfl (hb hby at_120) rfl ?_
        refine own_icmpF X19 hx (pc' := 125) rfl (hb hby at_122) (XT.ii_ne_f (own_no1 hr19 c89_20)) ?_
        refine own_iconst X19 hx (v := (1 : Int32)) (pc' := 126) rfl (hb hby at_125) rfl ?_
        refine own_goto X19 hx (pc' := 130) (hb hby at_126) (by decide) (by decide) ?_
        refine own_zret X19 hx hlk hret (by simp) (hb hby at_130) (by decide) (by decide) ?_
        rw [e19]
        exact ⟨rfl, M19⟩
    · refine own_ifT X16 hx (pc' := 77) (hb hby at_70) (XT.i0_ne_t c70_18) (by decide) (by decide) ?_
      refine own_iconst X16 hx (v := (0 : Int32)) (pc' := 78) rfl (hb hby at_77) rfl ?_
      refine own_istore X16 hx (Ls' := #[.val (.int p1), .val (.int p2), .val (.int p3), .val (.int xx), .val (.int yy), .val (.double r5), .second, .val (.double r6), .second, .val (.ref o7), .val (.int (own_none xx yy)), .val (.int (0 : Int32)), .unset]) (pc' := 80) rfl (hb hby at_78) rfl ?_
      refine own_aload X16 hx (pc' := 82) rfl (hb hby at_80) rfl rfl ?_
      refine own_dconst1 X16 hx (v := FP.dconst1) (pc' := 83) rfl (hb hby at_82) rfl ?_
      refine own_dconst0 X16 hx (v := FP.dconst0) (pc' := 84) rfl (hb hby at_83) rfl ?_
      refine own_callV X16 hx hZ (y := (⟨"com/example/tranchery/tranchery/solve/Aim$Weighing", "of", "(DD)D"⟩ : MethodName)) hown (hw _ (List.mem_of_getElem? (i := 27) rfl)) (hw _ (List.mem_of_getElem? (i := 28) rfl)) (hw _ (List.mem_of_getElem? (i := 30) rfl)) (hw _ (List.mem_of_getElem? (i := 29) rfl)) (hw _ (List.mem_of_getElem? (i := 6) rfl)) (hw _ (List.mem_of_getElem? (i := 31) rfl)) Exa_13  (by decide) (rm_of10 l Z a0 hw [] r5 r6 xx yy o7 h11 n0 Siz_12 Exa_13 G11_1 G11_2 hr_x hr_y) (by decide) (W := 0) (by decide) (by decide) (by decide) e16 (by rw [hml]; rfl) (argsL := [(.double FP.dconst1), (.double FP.dconst0)]) (rest := []) rfl (lenOf pd__DD_D rfl) rfl (Nat.le_of_eq rfl) (pc' := 87) rfl (hb hby at_84) ?_
      rintro _ T23 L23 X23 ⟨r23, rfl, hr23, N23, e23⟩
      have M23 := Fr.app M16 N23
      show own_Goes p e below T23 (mkF m 87 #[.val (.int p1), .val (.int p2), .val (.int p3), .val (.int xx), .val (.int yy), .val (.double r5), .second, .val (.double r6), .second, .val (.ref o7), .val (.int (own_none xx yy)), .val (.int (0 : Int32)), .unset] [(.double r23)]) _
      refine own_dconst0 X23 hx (v := FP.dconst0) (pc' := 88) rfl (hb hby at_87) rfl ?_
      refine own_dcmp X23 hx (v := (cmpValue (FP.dcmp r23 FP.dconst0) .l)) (pc' := 89) rfl (hb hby at_88) rfl ?_
      by_cases c89_24 : (cmpValue (FP.dcmp r23 FP.dconst0) .l) = 0
      · refine own_ifF X23 hx (pc' := 92) rfl (hb hby at_89) (XT.i0_ne_f c89_24) ?_
        refine own_aload X23 hx (pc' := 94) rfl (hb hby at_92) rfl rfl ?_
        refine own_dconst0 X23 hx (v := FP.dconst0) (pc' := 95) rfl (hb hby at_94) rfl ?_
        refine own_dconst1 X23 hx (v := FP.dconst1) (pc' := 96) rfl (hb hby at_95) rfl ?_
        refine own_callV X23 hx hZ (y := (⟨"com/example/tranchery/tranchery/solve/Aim$Weighing", "of", "(DD)D"⟩ : MethodName)) hown (hw _ (List.mem_of_getElem? (i := 27) rfl)) (hw _ (List.mem_of_getElem? (i := 28) rfl)) (hw _ (List.mem_of_getElem? (i := 30) rfl)) (hw _ (List.mem_of_getElem? (i := 29) rfl)) (hw _ (List.mem_of_getElem? (i := 6) rfl)) (hw _ (List.mem_of_getElem? (i := 31) rfl)) Exa_13  (by decide) (rm_of01 l Z a0 hw [] r5 r6 xx yy o7 h11 n0 Siz_12 Exa_13 G11_1 G11_2 hr_x hr_y) (by decide) (W := 0) (by decide) (by decide) (by decide) e23 (by rw [hml]; rfl) (argsL := [(.double FP.dconst0), (.double FP.dconst1)]) (rest := []) rfl (lenOf pd__DD_D rfl) rfl (Nat.le_of_eq rfl) (pc' := 99) rfl (hb hby at_96) ?_
        rintro _ T25 L25 X25 ⟨r25, rfl, hr25, N25, e25⟩
        have M25 := Fr.app M23 N25
        show own_Goes p e below T25 (mkF m 99 #[.val (.int p1), .val (.int p2), .val (.int p3), .val (.int xx), .val (.int yy), .val (.double r5), .second, .val (.double r6), .second, .val (.ref o7), .val (.int (own_none xx yy)), .val (.int (0 : Int32)), .unset] [(.double r25)]) _
        refine own_dconst0 X25 hx (v := FP.dconst0) (pc' := 100) rfl (hb hby at_99) rfl ?_
        refine own_dcmp X25 hx (v := (cmpValue (FP.dcmp r25 FP.dconst0) .l)) (pc' := 101) rfl (hb hby at_100) rfl ?_
        by_cases c101_26 : (cmpValue (FP.dcmp r25 FP.dconst0) .l) = 0
        · refine own_ifF X25 hx (pc' := 104) rfl (hb hby at_101) (XT.i0_ne_f c101_26) ?_
          refine own_iconst X25 hx (v := (1 : Int32)) (pc' := 105) rfl (hb hby at_104) rfl ?_
          refine own_goto X25 hx (pc' := 109) (hb hby at_105) (by decide) (by decide) ?_
          refine own_istore X25 hx (Ls' := #[.val (.int p1), .val (.int p2), .val (.int p3), .val (.int xx), .val (.int yy), .val (.double r5), .second, .val (.double r6), .second, .val (.ref o7), .val (.int (own_none xx yy)), .val (.int (0 : Int32)), .val (.int (1 : Int32))]) (pc' := 111) rfl (hb hby at_109) rfl ?_
          refine own_iload X25 hx (pc' := 113) rfl (hb hby at_111) rfl ?_
          refine own_iload X25 hx (pc' := 115) rfl (hb hby at_113) rfl ?_
          refine own_icmpF X25 hx (pc' := 118) rfl (hb hby at_115) (XT.ii_ne_f (own_e0y c70_18)) ?_
          refine own_iload X25 hx (pc' := 120) rfl (hb hby at_118) rfl ?_
          refine own_iload X25 hx (pc' := 122) rfl (hb hby at_120) rfl ?_
          refine own_icmpF X25 hx (pc' := 125) rfl (hb hby at_122) (XT.ii_ne_f (own_two hr23 hr25 c89_24 c101_26)) ?_
          refine own_iconst X25 hx (v := (1 : Int32)) (pc' := 126) rfl (hb hby at_125) rfl ?_
          refine own_goto X25 hx (pc' := 130) (hb hby at_126) (by decide) (by decide) ?_
          refine own_zret X25 hx hlk hret (by simp) (hb hby at_130) (by decide) (by decide) ?_
          rw [e25]
          exact ⟨rfl, M25⟩
        · refine own_ifT X25 hx (pc' := 108) (hb hby at_101) (XT.i0_ne_t c101_26) (by decide) (by decide) ?_
          refine own_iconst X25 hx (v := (0 : Int32)) (pc' := 109) rfl (hb hby at_108) rfl ?_
          refine own_istore X25 hx (Ls' := #[.val (.int p1), .val (.int p2), .val (.int p3), .val (.int xx), .val (.int yy), .val (.double r5), .second, .val (.double r6), .second, .val (.ref o7), .val (.int (own_none xx yy)), .val (.int (0 : Int32)), .val (.int (0 : Int32))]) (pc' := 111) rfl (hb hby at_109) rfl ?_
          refine own_iload X25 hx (pc' := 113) rfl (hb hby at_111) rfl ?_
          refine own_iload X25 hx (pc' := 115) rfl (hb hby at_113) rfl ?_
          refine own_icmpF X25 hx (pc' := 118) rfl (hb hby at_115) (XT.ii_ne_f (own_e0y c70_18)) ?_
          refine own_iload X25 hx (pc' := 120) rfl (hb hby at_118) rfl ?_
          refine own_iload X25 hx (pc' := 122) rfl (hb hby at_120) rfl ?_
          refine own_icmpF X25 hx (pc' := 125) rfl (hb hby at_122) (XT.ii_ne_f (own_no2 hr25 c101_26)) ?_
          refine own_iconst X25 hx (v := (1 : Int32)) (pc' := 126) rfl (hb hby at_125) rfl ?_
          refine own_goto X25 hx (pc' := 130) (hb hby at_126) (by decide) (by decide) ?_
          refine own_zret X25 hx hlk hret (by simp) (hb hby at_130) (by decide) (by decide) ?_
          rw [e25]
          exact ⟨rfl, M25⟩
      · refine own_ifT X23 hx (pc' := 108) (hb hby at_89) (XT.i0_ne_t c89_24) (by decide) (by decide) ?_
        refine own_iconst X23 hx (v := (0 : Int32)) (pc' := 109) rfl (hb hby at_108) rfl ?_
        refine own_istore X23 hx (Ls' := #[.val (.int p1), .val (.int p2), .val (.int p3), .val (.int xx), .val (.int yy), .val (.double r5), .second, .val (.double r6), .second, .val (.ref o7), .val (.int (own_none xx yy)), .val (.int (0 : Int32)), .val (.int (0 : Int32))]) (pc' := 111) rfl (hb hby at_109) rfl ?_
        refine own_iload X23 hx (pc' := 113) rfl (hb hby at_111) rfl ?_
        refine own_iload X23 hx (pc' := 115) rfl (hb hby at_113) rfl ?_
        refine own_icmpF X23 hx (pc' := 118) rfl (hb hby at_115) (XT.ii_ne_f (own_e0y c70_18)) ?_
        refine own_iload X23 hx (pc' := 120) rfl (hb hby at_118) rfl ?_
        refine own_iload X23 hx (pc' := 122) rfl (hb hby at_120) rfl ?_
        refine own_icmpF X23 hx (pc' := 125) rfl (hb hby at_122) (XT.ii_ne_f (own_no1 hr23 c89_24)) ?_
        refine own_iconst X23 hx (v := (1 : Int32)) (pc' := 126) rfl (hb hby at_125) rfl ?_
        refine own_goto X23 hx (pc' := 130) (hb hby at_126) (by decide) (by decide) ?_
        refine own_zret X23 hx hlk hret (by simp) (hb hby at_130) (by decide) (by decide) ?_
        rw [e23]
        exact ⟨rfl, M23⟩
  · refine own_ifT X16 hx (pc' := 77) (hb hby at_65) (XT.i0_ne_t c65_17) (by decide) (by decide) ?_
    refine own_iconst X16 hx (v := (0 : Int32)) (pc' := 78) rfl (hb hby at_77) rfl ?_
    refine own_istore X16 hx (Ls' := #[.val (.int p1), .val (.int p2), .val (.int p3), .val (.int xx), .val (.int yy), .val (.double r5), .second, .val (.double r6), .second, .val (.ref o7), .val (.int (own_none xx yy)), .val (.int (0 : Int32)), .unset]) (pc' := 80) rfl (hb hby at_78) rfl ?_
    refine own_aload X16 hx (pc' := 82) rfl (hb hby at_80) rfl rfl ?_
    refine own_dconst1 X16 hx (v := FP.dconst1) (pc' := 83) rfl (hb hby at_82) rfl ?_
    refine own_dconst0 X16 hx (v := FP.dconst0) (pc' := 84) rfl (hb hby at_83) rfl ?_
    refine own_callV X16 hx hZ (y := (⟨"com/example/tranchery/tranchery/solve/Aim$Weighing", "of", "(DD)D"⟩ : MethodName)) hown (hw _ (List.mem_of_getElem? (i := 27) rfl)) (hw _ (List.mem_of_getElem? (i := 28) rfl)) (hw _ (List.mem_of_getElem? (i := 30) rfl)) (hw _ (List.mem_of_getElem? (i := 29) rfl)) (hw _ (List.mem_of_getElem? (i := 6) rfl)) (hw _ (List.mem_of_getElem? (i := 31) rfl)) Exa_13  (by decide) (rm_of10 l Z a0 hw [] r5 r6 xx yy o7 h11 n0 Siz_12 Exa_13 G11_1 G11_2 hr_x hr_y) (by decide) (W := 0) (by decide) (by decide) (by decide) e16 (by rw [hml]; rfl) (argsL := [(.double FP.dconst1), (.double FP.dconst0)]) (rest := []) rfl (lenOf pd__DD_D rfl) rfl (Nat.le_of_eq rfl) (pc' := 87) rfl (hb hby at_84) ?_
    rintro _ T27 L27 X27 ⟨r27, rfl, hr27, N27, e27⟩
    have M27 := Fr.app M16 N27
    show own_Goes p e below T27 (mkF m 87 #[.val (.int p1), .val (.int p2), .val (.int p3), .val (.int xx), .val (.int yy), .val (.double r5), .second, .val (.double r6), .second, .val (.ref o7), .val (.int (own_none xx yy)), .val (.int (0 : Int32)), .unset] [(.double r27)]) _
    refine own_dconst0 X27 hx (v := FP.dconst0) (pc' := 88) rfl (hb hby at_87) rfl ?_
    refine own_dcmp X27 hx (v := (cmpValue (FP.dcmp r27 FP.dconst0) .l)) (pc' := 89) rfl (hb hby at_88) rfl ?_
    by_cases c89_28 : (cmpValue (FP.dcmp r27 FP.dconst0) .l) = 0
    · refine own_ifF X27 hx (pc' := 92) rfl (hb hby at_89) (XT.i0_ne_f c89_28) ?_
      refine own_aload X27 hx (pc' := 94) rfl (hb hby at_92) rfl rfl ?_
      refine own_dconst0 X27 hx (v := FP.dconst0) (pc' := 95) rfl (hb hby at_94) rfl ?_
      refine own_dconst1 X27 hx (v := FP.dconst1) (pc' := 96) rfl (hb hby at_95) rfl ?_
      refine own_callV X27 hx hZ (y := (⟨"com/example/tranchery/tranchery/solve/Aim$Weighing", "of", "(DD)D"⟩ : MethodName)) hown (hw _ (List.mem_of_getElem? (i := 27) rfl)) (hw _ (List.mem_of_getElem? (i := 28) rfl)) (hw _ (List.mem_of_getElem? (i := 30) rfl)) (hw _ (List.mem_of_getElem? (i := 29) rfl)) (hw _ (List.mem_of_getElem? (i := 6) rfl)) (hw _ (List.mem_of_getElem? (i := 31) rfl)) Exa_13  (by decide) (rm_of01 l Z a0 hw [] r5 r6 xx yy o7 h11 n0 Siz_12 Exa_13 G11_1 G11_2 hr_x hr_y) (by decide) (W := 0) (by decide) (by decide) (by decide) e27 (by rw [hml]; rfl) (argsL := [(.double FP.dconst0), (.double FP.dconst1)]) (rest := []) rfl (lenOf pd__DD_D rfl) rfl (Nat.le_of_eq rfl) (pc' := 99) rfl (hb hby at_96) ?_
      rintro _ T29 L29 X29 ⟨r29, rfl, hr29, N29, e29⟩
      have M29 := Fr.app M27 N29
      show own_Goes p e below T29 (mkF m 99 #[.val (.int p1), .val (.int p2), .val (.int p3), .val (.int xx), .val (.int yy), .val (.double r5), .second, .val (.double r6), .second, .val (.ref o7), .val (.int (own_none xx yy)), .val (.int (0 : Int32)), .unset] [(.double r29)]) _
      refine own_dconst0 X29 hx (v := FP.dconst0) (pc' := 100) rfl (hb hby at_99) rfl ?_
      refine own_dcmp X29 hx (v := (cmpValue (FP.dcmp r29 FP.dconst0) .l)) (pc' := 101) rfl (hb hby at_100) rfl ?_
      by_cases c101_30 : (cmpValue (FP.dcmp r29 FP.dconst0) .l) = 0
      · refine own_ifF X29 hx (pc' := 104) rfl (hb hby at_101) (XT.i0_ne_f c101_30) ?_
        refine own_iconst X29 hx (v := (1 : Int32)) (pc' := 105) rfl (hb hby at_104) rfl ?_
        refine own_goto X29 hx (pc' := 109) (hb hby at_105) (by decide) (by decide) ?_
        refine own_istore X29 hx (Ls' := #[.val (.int p1), .val (.int p2), .val (.int p3), .val (.int xx), .val (.int yy), .val (.double r5), .second, .val (.double r6), .second, .val (.ref o7), .val (.int (own_none xx yy)), .val (.int (0 : Int32)), .val (.int (1 : Int32))]) (pc' := 111) rfl (hb hby at_109) rfl ?_
        refine own_iload X29 hx (pc' := 113) rfl (hb hby at_111) rfl ?_
        refine own_iload X29 hx (pc' := 115) rfl (hb hby at_113) rfl ?_
        refine own_icmpF X29 hx (pc' := 118) rfl (hb hby at_115) (XT.ii_ne_f (own_e0x c65_17)) ?_
        refine own_iload X29 hx (pc' := 120) rfl (hb hby at_118) rfl ?_
        refine own_iload X29 hx (pc' := 122) rfl (hb hby at_120) rfl ?_
        refine own_icmpF X29 hx (pc' := 125) rfl (hb hby at_122) (XT.ii_ne_f (own_two hr27 hr29 c89_28 c101_30)) ?_
        refine own_iconst X29 hx (v := (1 : Int32)) (pc' := 126) rfl (hb hby at_125) rfl ?_
        refine own_goto X29 hx (pc' := 130) (hb hby at_126) (by decide) (by decide) ?_
        refine own_zret X29 hx hlk hret (by simp) (hb hby at_130) (by decide) (by decide) ?_
        rw [e29]
        exact ⟨rfl, M29⟩
      · refine own_ifT X29 hx (pc' := 108) (hb hby at_101) (XT.i0_ne_t c101_30) (by decide) (by decide) ?_
        refine own_iconst X29 hx (v := (0 : Int32)) (pc' := 109) rfl (hb hby at_108) rfl ?_
        refine own_istore X29 hx (Ls' := #[.val (.int p1), .val (.int p2), .val (.int p3), .val (.int xx), .val (.int yy), .val (.double r5), .second, .val (.double r6), .second, .val (.ref o7), .val (.int (own_none xx yy)), .val (.int (0 : Int32)), .val (.int (0 : Int32))]) (pc' := 111) rfl (hb hby at_109) rfl ?_
        refine own_iload X29 hx (pc' := 113) rfl (hb hby at_111) rfl ?_
        refine own_iload X29 hx (pc' := 115) rfl (hb hby at_113) rfl ?_
        refine own_icmpF X29 hx (pc' := 118) rfl (hb hby at_115) (XT.ii_ne_f (own_e0x c65_17)) ?_
        refine own_iload X29 hx (pc' := 120) rfl (hb hby at_118) rfl ?_
        refine own_iload X29 hx (pc' := 122) rfl (hb hby at_120) rfl ?_
        refine own_icmpF X29 hx (pc' := 125) rfl (hb hby at_122) (XT.ii_ne_f (own_no2 hr29 c101_30)) ?_
        refine own_iconst X29 hx (v := (1 : Int32)) (pc' := 126) rfl (hb hby at_125) rfl ?_
        refine own_goto X29 hx (pc' := 130) (hb hby at_126) (by decide) (by decide) ?_
        refine own_zret X29 hx hlk hret (by simp) (hb hby at_130) (by decide) (by decide) ?_
        rw [e29]
        exact ⟨rfl, M29⟩
    · refine own_ifT X27 hx (pc' := 108) (hb hby at_89) (XT.i0_ne_t c89_28) (by decide) (by decide) ?_
      refine own_iconst X27 hx (v := (0 : Int32)) (pc' := 109) rfl (hb hby at_108) rfl ?_
      refine own_istore X27 hx (Ls' := #[.val (.int p1), .val (.int p2), .val (.int p3), .val (.int xx), .val (.int yy), .val (.double r5), .second, .val (.double r6), .second, .val (.ref o7), .val (.int (own_none xx yy)), .val (.int (0 : Int32)), .val (.int (0 : Int32))]) (pc' := 111) rfl (hb hby at_109) rfl ?_
      refine own_iload X27 hx (pc' := 113) rfl (hb hby at_111) rfl ?_
      refine own_iload X27 hx (pc' := 115) rfl (hb hby at_113) rfl ?_
      refine own_icmpF X27 hx (pc' := 118) rfl (hb hby at_115) (XT.ii_ne_f (own_e0x c65_17)) ?_
      refine own_iload X27 hx (pc' := 120) rfl (hb hby at_118) rfl ?_
      refine own_iload X27 hx (pc' := 122) rfl (hb hby at_120) rfl ?_
      refine own_icmpF X27 hx (pc' := 125) rfl (hb hby at_122) (XT.ii_ne_f (own_no1 hr27 c89_28)) ?_
      refine own_iconst X27 hx (v := (1 : Int32)) (pc' := 126) rfl (hb hby at_125) rfl ?_
      refine own_goto X27 hx (pc' := 130) (hb hby at_126) (by decide) (by decide) ?_
      refine own_zret X27 hx hlk hret (by simp) (hb hby at_130) (by decide) (by decide) ?_
      rw [e27]
      exact ⟨rfl, M27⟩
set_option maxRecDepth 65536 in
set_option maxHeartbeats 40000000 in
theorem comes_1 {Post : Tables → Env → Array Value → State → Outcome → State → Prop} (hpost : ∀ tb e args s v u, (limb_1_1.after args s (.returned v) u = true ∧ limb_1_2.after args s (.returned v) u = true ∧ True) → FrameEnd s (.returned v) u (Jvm.fieldLocs frame_1_writes args s ++ Jvm.arrayLocs frame_1_arrays args s ++ Jvm.staticLocs frame_1_statics s) 16 128 → Post tb e args s (.returned v) u) :
    ArmFor flags0 classFile x code maxLocals ret World_1 tables_1 room_1 Calls_1 rest_1 Pre_1 Post := by
  intro l hfl _ _ p e ha hc hk s m args below hf hA hF happ hP
  obtain ⟨hcalls, hrest, hpre⟩ := hP
  obtain ⟨-, -, -, hnamed, -, -, -, hat⟩ := (Spec.applies_iff hf).mp happ
  obtain ⟨hg, hn⟩ := and_e (Cond.before_iff.mp (show (Jvm.Cond.and given_1 narrow_1).before args s = true from hpre))
  obtain ⟨h1, hg1⟩ := and_e hg
  obtain ⟨w0, w1, w2, rfl⟩ : ∃ w0 w1 w2 : Value, args = #[w0, w1, w2] := by
    have hs : args.size = 3 := by simpa [Cond.value, given_1] using h1
    obtain ⟨L⟩ := args
    match L, hs with
    | [w0, w1, w2], _ => exact ⟨w0, w1, w2, rfl⟩
  have hw := fun d (hd : d ∈ tables_1) => atoms_spec (ws := Jvm.Cond.code x code maxLocals ret :: tables_1) hat d (List.mem_cons_of_mem _ hd)
  have hfit : Fit s := fun {y c} hc i hi => by
    obtain ⟨ha, rfl⟩ := Array.getElem?_eq_some_iff.mp hc
    have q := List.all_eq_true.mp ((Array.all_eq_true_iff_forall_mem.mp hF) _ (Array.getElem_mem ha)) i (List.mem_range.mpr hi)
    simpa [Array.getElem?_eq_getElem hi] using q
  obtain ⟨q0, hg2⟩ := and_e hg1
  obtain ⟨i0, ee0⟩ := is_v q0
  obtain rfl : w0 = (.int i0) := Option.some.inj ee0
  obtain ⟨q1, hg3⟩ := and_e hg2
  obtain ⟨i1, ee1⟩ := is_v q1
  obtain rfl : w1 = (.int i1) := Option.some.inj ee1
  obtain ⟨i2, ee2⟩ := is_v hg3
  obtain rfl : w2 = (.int i2) := Option.some.inj ee2
  obtain ⟨n, o, h1, h2, h3, _, L, rfl, ⟨rfl, N⟩, hq⟩ := rm_law l s _ hw tables_1  i0 i1 i2 s.heap s.heap.size (Nat.le_refl _) p e ha hc hk s m _ below hf ((Spec.applies_iff_loose hf).mp happ).1 ⟨rfl, State.Warmed39.refl s, rfl⟩ trivial
  refine ⟨n, _, h1, h2, h3, hpost _ _ _ _ _ _ ⟨Cond.after_iff.mpr rfl, Cond.after_iff.mpr (eq_i res_at (Term.int_eval (1)) rfl), trivial⟩ ⟨hq.1, hq.2.1, (hq.2.2.sift fun y hy => Or.inr (N y hy)).mono (by decide) (by decide)⟩⟩
theorem main_1_1 : Claimed_1_1 := comes_1 fun _ _ _ _ _ _ h hF => ⟨h.1, hF⟩
theorem main_1_2 : Claimed_1_2 := comes_1 fun _ _ _ _ _ _ h hF => ⟨h.2.1, hF⟩
end Jvm.Pilot.@@N@@
namespace Jvm.Pilot.@@N@@
open Jvm Jvm.ClassFile Sem Op Lib Jvm.Free Jvm.Stand Jvm.Pilot.@@N@@.Jvm.D
/-! MADE BY PROGRAM (witnessworld.py) out of the Statement's table words and the real class files: 10 classes; the members and pool entries that the words name. The judged class is class 1, her method 2. -/
namespace start1
open Jvm.ClassFile
def u (s : String) : CpInfo := .utf8 (stringToUtf16 s)
/-- a pool by its gaps: so many unusable entries, then the entry; so many at the end -/
def gap : Nat → List CpInfo → List CpInfo
  | 0, r => r
  | n + 1, r => .unusable :: gap n r
def poolList (es : List (Nat × CpInfo)) (last : Nat) : List CpInfo := es.foldr (fun e r => gap e.1 (e.2 :: r)) (gap last [])
def pool (es : List (Nat × CpInfo)) (last : Nat) : Array CpInfo := ⟨poolList es last⟩
def fileOf (pool : Array CpInfo) (this : Nat) (attrs : Array Attribute := #[]) (ms : Array MethodInfo := #[]) (fl : Nat := 33) (sup : Nat := 0) (ifs : Array Nat := #[]) (fds : Array FieldInfo := #[]) : ClassFile where
  minorVersion := 0
  majorVersion := 65
  constantPool := pool
  accessFlags := fl
  thisClass := this
  superClass := sup
  interfaces := ifs
  fields := fds
  methods := ms
  attributes := attrs
def plain (name : String) (sup : Option ClassId) : Class where
  name := name
  kind := .ordinary
  loader := none
  accessFlags := 33
  super := sup
  interfaces := #[]
  cf := none
  fields := #[]
  methods := #[]
  instanceTypes := #[]
  staticTypes := #[]
  resolved := #[]
  callSites := []
  init := .initialized
  statics := none
  mirror := none

def pool0 : Array CpInfo := pool [(5, u "<init>"), (0, u "()V"), (1, .class_ 10), (1, u "java/lang/Object")] 113

def k0c0 : Code := { maxStack := 0, maxLocals := 1, code := object_method_1_code, exceptionTable := #[], attributes := #[] }
def k0m0 : Method := { name := "<init>", desc := "()V", sig := { parameters := [], returnType := none }, accessFlags := 1, code := some k0c0 }
/-- java/lang/Object -/
def k0 : Class := { plain "java/lang/Object" none with
  accessFlags := 33
  interfaces := #[]
  cf := some (fileOf pool0 8 #[] #[{ accessFlags := 1, nameIndex := 5, descriptorIndex := 6, attributes := #[] }] 33 0 #[] #[])
  fields := #[]
  methods := #[k0m0]
  instanceTypes := #[]
  staticTypes := #[]
  resolved := Array.replicate 124 none
  statics := none }

def pool1 : Array CpInfo := pool [(2, .class_ 4), (1, u "java/lang/Object"), (0, u "<init>"), (0, u "()V"), (2, .double 1), (1, .methodref 12 13), (0, .class_ 14), (0, .nameAndType 15 16), (0, u "com/example/tranchery/tranchery/solve/WeighingIsNonePinLaw"), (0, u "draw"), (0, u "(II)D"), (0, .class_ 18), (0, u "com/example/tranchery/tranchery/solve/Aim$Weighing"), (0, .methodref 17 20), (0, .nameAndType 5 21), (0, u "(DD)V"), (0, .methodref 17 23), (0, .nameAndType 24 25), (0, u "isNone"), (0, u "()Z"), (0, .methodref 17 27), (0, .nameAndType 28 29), (0, u "of"), (0, u "(DD)D"), (3, u "law"), (0, u "(III)Z")] 6

def k1m0 : Method := { name := "<init>", desc := "()V", sig := { parameters := [], returnType := none }, accessFlags := 1, code := none }
def k1c1 : Code := { maxStack := 4, maxLocals := 4, code := method_2_code, exceptionTable := #[], attributes := #[] }
def k1m1 : Method := { name := "draw", desc := "(II)D", sig := { parameters := [.int, .int], returnType := some .double }, accessFlags := 10, code := some k1c1 }
def k1c2 : Code := { maxStack := 6, maxLocals := 13, code := code, exceptionTable := #[], attributes := #[] }
def k1m2 : Method := { name := "law", desc := "(III)Z", sig := { parameters := [.int, .int, .int], returnType := some .boolean }, accessFlags := 9, code := some k1c2 }
/-- com/example/tranchery/tranchery/solve/WeighingIsNonePinLaw -/
def k1 : Class := { plain "com/example/tranchery/tranchery/solve/WeighingIsNonePinLaw" (some 0) with
  accessFlags := 49
  interfaces := #[]
  cf := some (fileOf pool1 12 #[] #[{ accessFlags := 1, nameIndex := 5, descriptorIndex := 6, attributes := #[] }, { accessFlags := 10, nameIndex := 15, descriptorIndex := 16, attributes := #[] }, { accessFlags := 9, nameIndex := 33, descriptorIndex := 34, attributes := #[] }] 49 2 #[] #[])
  fields := #[]
  methods := #[k1m0, k1m1, k1m2]
  instanceTypes := #[]
  staticTypes := #[]
  resolved := Array.replicate 41 none
  statics := none }

def pool2 : Array CpInfo := pool [(1, .methodref 2 3), (0, .class_ 4), (0, .nameAndType 5 6), (0, u "java/lang/Object"), (0, u "<init>"), (0, u "()V"), (0, .class_ 8), (0, u "java/lang/Record")] 13

def k2c0 : Code := { maxStack := 1, maxLocals := 1, code := jdk_30_method_1_code, exceptionTable := #[], attributes := #[] }
def k2m0 : Method := { name := "<init>", desc := "()V", sig := { parameters := [], returnType := none }, accessFlags := 4, code := some k2c0 }
/-- java/lang/Record -/
def k2 : Class := { plain "java/lang/Record" (some 0) with
  accessFlags := 1057
  interfaces := #[]
  cf := some (fileOf pool2 7 #[] #[{ accessFlags := 4, nameIndex := 5, descriptorIndex := 6, attributes := #[] }] 1057 2 #[] #[])
  fields := #[]
  methods := #[k2m0]
  instanceTypes := #[]
  staticTypes := #[]
  resolved := Array.replicate 22 none
  statics := none }

def pool3 : Array CpInfo := pool [(1, .methodref 2 3), (0, .class_ 4), (0, .nameAndType 5 6), (0, u "java/lang/Record"), (0, u "<init>"), (0, u "()V"), (0, .fieldref 8 9), (0, .class_ 10), (0, .nameAndType 11 12), (0, u "com/example/tranchery/tranchery/solve/Aim$Weighing"), (0, u "contractor"), (0, u "D"), (0, .fieldref 8 14), (0, .nameAndType 15 12), (0, u "client"), (8, u "(DD)V"), (11, u "of"), (0, u "(DD)D"), (17, u "()Z"), (50, u "NONE"), (0, u "Lcom/example/tranchery/tranchery/solve/Aim$Weighing;"), (5, u "isNone"), (10, .class_ 125), (0, u "com/example/tranchery/tranchery/solve/Aim")] 20

def k3c0 : Code := { maxStack := 3, maxLocals := 5, code := prog_30_method_1_code, exceptionTable := #[], attributes := #[] }
def k3m0 : Method := { name := "<init>", desc := "(DD)V", sig := { parameters := [.double, .double], returnType := none }, accessFlags := 0, code := some k3c0 }
def k3c1 : Code := { maxStack := 4, maxLocals := 1, code := prog_30_method_3_code, exceptionTable := #[], attributes := #[] }
def k3m1 : Method := { name := "isNone", desc := "()Z", sig := { parameters := [], returnType := some .boolean }, accessFlags := 0, code := some k3c1 }
def k3c2 : Code := { maxStack := 4, maxLocals := 9, code := prog_30_method_5_code, exceptionTable := #[], attributes := #[] }
def k3m2 : Method := { name := "of", desc := "(DD)D", sig := { parameters := [.double, .double], returnType := some .double }, accessFlags := 0, code := some k3c2 }
/-- com/example/tranchery/tranchery/solve/Aim$Weighing -/
def k3 : Class := { plain "com/example/tranchery/tranchery/solve/Aim$Weighing" (some 2) with
  accessFlags := 48
  interfaces := #[]
  cf := some (fileOf pool3 8 #[.nestHost 124] #[{ accessFlags := 0, nameIndex := 5, descriptorIndex := 24, attributes := #[] }, { accessFlags := 0, nameIndex := 113, descriptorIndex := 55, attributes := #[] }, { accessFlags := 0, nameIndex := 36, descriptorIndex := 37, attributes := #[] }] 48 2 #[] #[{ accessFlags := 18, nameIndex := 11, descriptorIndex := 12, attributes := #[] }, { accessFlags := 18, nameIndex := 15, descriptorIndex := 12, attributes := #[] }, { accessFlags := 24, nameIndex := 106, descriptorIndex := 107, attributes := #[] }])
  fields := #[{ name := "contractor", type := .double, accessFlags := 18, slot := 0, constantValue := 0 }, { name := "client", type := .double, accessFlags := 18, slot := 1, constantValue := 0 }, { name := "NONE", type := (.object "com/example/tranchery/tranchery/solve/Aim$Weighing"), accessFlags := 24, slot := 0, constantValue := 0 }]
  methods := #[k3m0, k3m1, k3m2]
  instanceTypes := #[.double, .double]
  staticTypes := #[(.object "com/example/tranchery/tranchery/solve/Aim$Weighing")]
  resolved := Array.replicate 146 none
  statics := none }

def pool4 : Array CpInfo := pool [(1, u "java/lang/Cloneable"), (0, .class_ 1), (0, u "java/lang/Object"), (0, .class_ 3)] 3

/-- java/lang/Cloneable -/
def k4 : Class := { plain "java/lang/Cloneable" (some 0) with
  accessFlags := 1537
  interfaces := #[]
  cf := some (fileOf pool4 2 #[] #[] 1537 4 #[] #[])
  fields := #[]
  methods := #[]
  instanceTypes := #[]
  staticTypes := #[]
  resolved := Array.replicate 8 none
  statics := none }

def pool5 : Array CpInfo := pool [(1, u "java/io/Serializable"), (0, .class_ 1), (0, u "java/lang/Object"), (0, .class_ 3)] 3

/-- java/io/Serializable -/
def k5 : Class := { plain "java/io/Serializable" (some 0) with
  accessFlags := 1537
  interfaces := #[]
  cf := some (fileOf pool5 2 #[] #[] 1537 4 #[] #[])
  fields := #[]
  methods := #[]
  instanceTypes := #[]
  staticTypes := #[]
  resolved := Array.replicate 8 none
  statics := none }

/-- the primitive byte -/
def k6 : Class := { plain "byte" none with kind := .primitive 'B', accessFlags := 0x411 }
/-- [B -/
def k7 : Class := { plain "[B" (some 0) with kind := .array 6 .byte, interfaces := #[4, 5], accessFlags := 1041 }

/-- the primitive int -/
def k8 : Class := { plain "int" none with kind := .primitive 'I', accessFlags := 0x411 }
/-- [I -/
def k9 : Class := { plain "[I" (some 0) with kind := .array 8 .int, interfaces := #[4, 5], accessFlags := 1041 }

def heap : Heap := #[]
def classes : Array Class := #[k0, k1, k2, k3, k4, k5, k6, k7, k8, k9]
def interned : List (Array UInt16 × Addr) := []
def slotsUsed : Nat := 0
def theMethod : MethodId := ⟨1, 2⟩
def args0 : Array Value := #[.int 5, .int 7, .int 9]
def aboutOver (below : List Frame) : State where
  vm := { classes := classes, interned := interned.toArray }
  heap := heap
  slotsUsed := slotsUsed
  threads := #[{ frames := .invoking theMethod args0 :: below }]
def below0 : List Frame := [.native { method := ⟨0, 0⟩, args := #[] }]
def about1 : State := aboutOver below0
def p0 : Program := .bare "" "" ""
def e0 : Env := launch0.env 0 0 0
theorem w_frames : about1.frames = Frame.invoking theMethod args0 :: below0 := rfl
set_option maxRecDepth 65536 in
theorem w_args : argsFit about1.vm theMethod args0 = true := by decide +kernel
set_option maxRecDepth 65536 in
theorem w_heap : heapFits about1 = true := by decide +kernel
set_option maxRecDepth 65536 in
theorem w_runnable : about1.curStatus? = some .runnable := by decide +kernel
set_option maxRecDepth 65536 in
theorem w_alone : about1.alone = true := by decide +kernel
set_option maxRecDepth 65536 in
theorem w_named : about1.methodNamed? x = some theMethod := by decide +kernel
set_option maxRecDepth 65536 in
theorem w_hears : about1.hears theMethod below0 = true := by decide +kernel
set_option maxRecDepth 65536 in
theorem w_ripe : about1.ripe theMethod args0 below0 = true := by decide +kernel
theorem w_running : about1.status = .running := rfl
set_option maxRecDepth 65536 in
theorem w_room : about1.hasRoom e0.platform room_1 = true :=
  launch0.hasRoom_least _ room_1 (by decide +kernel) (by decide +kernel) (by decide +kernel) (by decide +kernel) (by decide +kernel) (by decide +kernel)
theorem allAtoms_all (ts : List Jvm.Cond) (a : Array Jvm.Value) (st : Jvm.State) : (allAtoms ts).before a st = ts.all (fun c => c.before a st) := by
  induction ts with
  | nil => rfl
  | cons c t ih =>
    show (Jvm.Cond.and c (allAtoms t)).before a st = _
    rw [Jvm.Cond.before_and, ih, List.all_cons]
def words1 : List Jvm.Cond := Jvm.Cond.code x code maxLocals ret :: tables_1
/-- a 'code' word, met by the world's own term for the bytes: nothing is compared byte by byte -/
theorem code_word {y : MethodName} {bytes : ByteArray} {mx : Nat} {rt : Option FieldType} {a : Array Value} {s : State} {m : MethodId} {meth : Method} {c : Code} (h1 : s.methodNamed? y = some m) (h2 : s.vm.method? m = some meth) (h3 : meth.code = some c) (h4 : c.code = bytes)
    (h5 : (c.maxLocals == mx && c.exceptionTable.isEmpty && decide (c.maxStack ≤ mostOperands) && decide (meth.sig.returnType = rt) && !meth.locks && decide (parseMethodDescriptor y.desc = some meth.sig)) = true) : (Jvm.Cond.code y bytes mx rt).before a s = true := by
  simp only [Bool.and_eq_true, beq_iff_eq, Bool.not_eq_true', decide_eq_true_eq] at h5
  obtain ⟨⟨⟨⟨⟨g1, g2⟩, g3⟩, g4⟩, g5⟩, g6⟩ := h5
  simp [Cond.before, Cond.holds, Cond.value, h1, h2, h3, h4, g1, g2, g3, g4, g5, g6]
def isCode : Jvm.Cond → Bool
  | .code _ _ _ _ => true
  | _ => false
theorem all_split {L : List Jvm.Cond} {P : Jvm.Cond → Bool} (h1 : L.all (fun c => isCode c || P c) = true) (h2 : ∀ c ∈ L.filter isCode, P c = true) : L.all P = true := by
  refine List.all_eq_true.mpr fun c hc => ?_
  have h := List.all_eq_true.mp h1 c hc
  rcases Bool.eq_false_or_eq_true (isCode c) with hi | hi
  · exact h2 c (List.mem_filter.mpr ⟨hc, hi⟩)
  · simpa [hi] using h
set_option maxRecDepth 65536 in
theorem w_c0 : (Jvm.Cond.code x code maxLocals ret).before args0 about1 = true := code_word (m := ⟨1, 2⟩) (meth := k1m2) (c := k1c2) (by decide +kernel) rfl rfl rfl (by decide +kernel)
set_option maxRecDepth 65536 in
theorem w_c1 : (Jvm.Cond.code ({ cls := "com/example/tranchery/tranchery/solve/WeighingIsNonePinLaw", name := "draw", desc := "(II)D" } : Jvm.MethodName) method_2_code (4 : Nat) (Option.some Jvm.ClassFile.FieldType.double)).before args0 about1 = true := code_word (m := ⟨1, 1⟩) (meth := k1m1) (c := k1c1) (by decide +kernel) rfl rfl rfl (by decide +kernel)
set_option maxRecDepth 65536 in
theorem w_c2 : (Jvm.Cond.code ({ cls := "com/example/tranchery/tranchery/solve/Aim$Weighing", name := "<init>", desc := "(DD)V" } : Jvm.MethodName) prog_30_method_1_code (5 : Nat) (Option.none : Option Jvm.ClassFile.FieldType)).before args0 about1 = true := code_word (m := ⟨3, 0⟩) (meth := k3m0) (c := k3c0) (by decide +kernel) rfl rfl rfl (by decide +kernel)
set_option maxRecDepth 65536 in
theorem w_c3 : (Jvm.Cond.code ({ cls := "java/lang/Record", name := "<init>", desc := "()V" } : Jvm.MethodName) jdk_30_method_1_code (1 : Nat) (Option.none : Option Jvm.ClassFile.FieldType)).before args0 about1 = true := code_word (m := ⟨2, 0⟩) (meth := k2m0) (c := k2c0) (by decide +kernel) rfl rfl rfl (by decide +kernel)
set_option maxRecDepth 65536 in
theorem w_c4 : (Jvm.Cond.code ({ cls := "java/lang/Object", name := "<init>", desc := "()V" } : Jvm.MethodName) object_method_1_code (1 : Nat) (Option.none : Option Jvm.ClassFile.FieldType)).before args0 about1 = true := code_word (m := ⟨0, 0⟩) (meth := k0m0) (c := k0c0) (by decide +kernel) rfl rfl rfl (by decide +kernel)
set_option maxRecDepth 65536 in
theorem w_c5 : (Jvm.Cond.code ({ cls := "com/example/tranchery/tranchery/solve/Aim$Weighing", name := "isNone", desc := "()Z" } : Jvm.MethodName) prog_30_method_3_code (1 : Nat) (Option.some Jvm.ClassFile.FieldType.boolean)).before args0 about1 = true := code_word (m := ⟨3, 1⟩) (meth := k3m1) (c := k3c1) (by decide +kernel) rfl rfl rfl (by decide +kernel)
set_option maxRecDepth 65536 in
theorem w_c6 : (Jvm.Cond.code ({ cls := "com/example/tranchery/tranchery/solve/Aim$Weighing", name := "of", desc := "(DD)D" } : Jvm.MethodName) prog_30_method_5_code (9 : Nat) (Option.some Jvm.ClassFile.FieldType.double)).before args0 about1 = true := code_word (m := ⟨3, 2⟩) (meth := k3m2) (c := k3c2) (by decide +kernel) rfl rfl rfl (by decide +kernel)
def codes1 : List Jvm.Cond := [Jvm.Cond.code x code maxLocals ret, Jvm.Cond.code ({ cls := "com/example/tranchery/tranchery/solve/WeighingIsNonePinLaw", name := "draw", desc := "(II)D" } : Jvm.MethodName) method_2_code (4 : Nat) (Option.some Jvm.ClassFile.FieldType.double), Jvm.Cond.code ({ cls := "com/example/tranchery/tranchery/solve/Aim$Weighing", name := "<init>", desc := "(DD)V" } : Jvm.MethodName) prog_30_method_1_code (5 : Nat) (Option.none : Option Jvm.ClassFile.FieldType), Jvm.Cond.code ({ cls := "java/lang/Record", name := "<init>", desc := "()V" } : Jvm.MethodName) jdk_30_method_1_code (1 : Nat) (Option.none : Option Jvm.ClassFile.FieldType), Jvm.Cond.code ({ cls := "java/lang/Object", name := "<init>", desc := "()V" } : Jvm.MethodName) object_method_1_code (1 : Nat) (Option.none : Option Jvm.ClassFile.FieldType), Jvm.Cond.code ({ cls := "com/example/tranchery/tranchery/solve/Aim$Weighing", name := "isNone", desc := "()Z" } : Jvm.MethodName) prog_30_method_3_code (1 : Nat) (Option.some Jvm.ClassFile.FieldType.boolean), Jvm.Cond.code ({ cls := "com/example/tranchery/tranchery/solve/Aim$Weighing", name := "of", desc := "(DD)D" } : Jvm.MethodName) prog_30_method_5_code (9 : Nat) (Option.some Jvm.ClassFile.FieldType.double)]
set_option maxRecDepth 65536 in
theorem codes_eq : words1.filter isCode = codes1 := rfl
theorem w_codes : ∀ c ∈ words1.filter isCode, c.before args0 about1 = true := by
  rw [codes_eq]
  intro c hc
  simp only [codes1, List.mem_cons, List.not_mem_nil, or_false] at hc
  rcases hc with rfl | rfl | rfl | rfl | rfl | rfl | rfl
  · exact w_c0
  · exact w_c1
  · exact w_c2
  · exact w_c3
  · exact w_c4
  · exact w_c5
  · exact w_c6
set_option maxRecDepth 65536 in
theorem w_t1 : (words1.take 24).all (fun c => isCode c || c.before args0 about1) = true := by decide +kernel
set_option maxRecDepth 65536 in
theorem w_t2 : (words1.drop 24).all (fun c => isCode c || c.before args0 about1) = true := by decide +kernel
theorem w_tables : (allAtoms (Jvm.Cond.code x code maxLocals ret :: tables_1)).before args0 about1 = true := by
  rw [allAtoms_all]
  show words1.all (fun c => c.before args0 about1) = true
  refine all_split ?_ w_codes
  rw [← List.take_append_drop 24 words1, List.all_append, w_t1, w_t2]
  rfl
set_option maxRecDepth 65536 in
theorem w_case : (Jvm.Cond.and given_1 narrow_1).before args0 about1 = true := by decide +kernel
theorem w_applies : (headSpec (Jvm.Cond.code x code maxLocals ret :: tables_1) room_1).applies x e0.platform about1 = true :=
  (Spec.applies_iff w_frames).mpr ⟨w_running, w_runnable, w_alone, w_named, w_hears, w_ripe, w_room, w_tables⟩
theorem atStart : AtStart classFile x code maxLocals ret World_1 tables_1 room_1 Calls_1 rest_1 Pre_1 launch0 p0 e0 about1 theMethod args0 below0 :=
  ⟨lists_1, trivial, launch0.admits_env _ _ _, launch0.least_env, fairChoices_fair.cas, fairChoices_fair.clock, w_frames, w_args, w_heap, w_applies, trivial, trivial, w_case⟩
end start1
theorem witness_1 : WitnessClaimed_1 := ⟨start1.p0, start1.e0, start1.about1, start1.theMethod, start1.args0, start1.below0, start1.atStart⟩
end Jvm.Pilot.@@N@@
