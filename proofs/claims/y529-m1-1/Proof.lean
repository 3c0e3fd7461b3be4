import JvmDerived
import JvmDerived.Pilot.@@N@@Statement
import JvmDerived.Pilot.@@N@@Code
set_option linter.unusedVariables false
set_option linter.unusedSimpArgs false
@@BLOCK:NumsL.lean.txt@@
namespace Jvm.Pilot.@@N@@
open Jvm Jvm.ClassFile Sem Op Lib Jvm.Free Jvm.Stand Jvm.LawKit Jvm.RoadKit Bundle Jvm.Pilot.@@N@@.Jvm.D
/-! 1. OWN: a walk in continuation style: 'own_Goes': from this frame the run comes back with an outcome of which Q holds -/
def own_Goes (p : Program) (e : Env) (below : List Frame) (T : State) (F : JFrame) (Q : Outcome → State → Prop) : Prop := ∃ s₂ o, Steps p.tables e below (T.setTop F) s₂ ∧ s₂.status = .running ∧ Ended s₂ below o ∧ Q o s₂
def own_Ret (s : State) (K : Option Value → Heap → List Loc → Prop) (rc rs : Nat) (o : Outcome) (U' : State) : Prop := ∃ v L, o = .returned v ∧ K v U'.heap L ∧ FrameEnd s o U' L rc rs
def own_upd (f : Nat → Value) (k : Nat) (v : Value) : Nat → Value := fun i => if i = k then v else f i
/-- an array of n places at a; place j holds f j -/
def own_Arr (Z : State) (h : Heap) (a : Addr) (ty : FieldType) (n : Nat) (f : Nat → Value) : Prop := ∃ c : Cell, Arr Z h a c ty ∧ c.slots.size = n ∧ n < 2 ^ 31 ∧ ∀ j, j < n → c.slots[j]? = some (f j)
section Own
variable {p : Program} {l : Launch} {e : Env} {R : Room} {s : State} {m : MethodId} {args : Array Value} {below : List Frame} {meth : Method} {c : Code} {T : State} {locs : List Loc} {cells slots : Nat} {Z : State} {a0 : Array Value} {h h' : Heap} {Q : Outcome → State → Prop} {Ls Ls' : Array Slot} {st : List Value} {pc pc' : Nat}
theorem own_step {T' : State} {F F' : JFrame} (k : ∀ t, Steps p.tables e below (T'.setTop F') t → Steps p.tables e below (T.setTop F) t) (q : own_Goes p e below T' F' Q) : own_Goes p e below T F Q := by
  obtain ⟨s2, o, h1, h2⟩ := q
  exact ⟨s2, o, k _ h1, h2⟩
theorem own_body {y : MethodName} {bytes : ByteArray} {maxL : Nat} {rt : Option FieldType} {ws : List Jvm.Cond} {rm : Room} {as : Array Value} {h0 : Heap} {K : Option Value → Heap → List Loc → Prop} (hpl : plainFor y = true)
    (body : ∀ (p : Program) (e : Env) (s : State) (m : MethodId) (below : List Frame) (meth : Method) (c : Code) (s₁ : State), p.tables.exec = Jvm.exec → c.code = bytes → c.maxLocals = maxL → s.vm.findClass y.cls = some m.cls → meth.name = y.name → meth.sig.returnType = rt → meth.locks = false → Z.Warmed39 s.vm →
      Stand p l e rm s m as below meth c s₁ [] 0 0 → s₁.heap = h0 → own_Goes p e below s₁ (entryFrame m as maxL) (own_Ret s K rm.cells rm.slots)) :
    MetFree l y (head1 (Jvm.Cond.code y bytes maxL rt :: ws) rm) (fun a U => a = as ∧ Z.Warmed39 U.vm ∧ U.heap = h0) (fun _ _ _ _ _ => True) (fun _ U o U' => ∃ v L, o = .returned v ∧ K v U'.heap L ∧ FrameEnd U o U' L rm.cells rm.slots) := by
  refine MetFree.of_bodySF hpl hisR ?_
  intro p e s m args below meth c s₁ Bd hml0 hP hK
  obtain ⟨rfl, hZ, hh⟩ := hP
  exact body p e s m below meth c s₁ Bd.exec Bd.bytes hml0 (findClass_of_methodNamed Bd.named) (name_of_methodNamed Bd.named Bd.method).1 Bd.returns Bd.notSynchronized hZ (Stand.of_body Bd) (by rw [← hh, Bd.state]; rfl)
theorem own_iload (X : Stand p l e R s m args below meth c T locs cells slots) (hx : p.tables.exec = Jvm.exec) {k : Nat} {v : Int32} (hp : pc + 2 = pc') (hd : decode c.code pc = .ok (.iload k, 2)) (hl : Ls[k]? = some (.val (.int v))) (k : own_Goes p e below T (mkF m pc' Ls (.int v :: st)) Q) : own_Goes p e below T (mkF m pc Ls st) Q := by
  subst hp; exact own_step (fun _ q => XS.iload X.here hx rfl hd hl q) k
theorem own_iloadN (X : Stand p l e R s m args below meth c T locs cells slots) (hx : p.tables.exec = Jvm.exec) {k : Fin 4} {v : Int32} (hp : pc + 1 = pc') (hd : decode c.code pc = .ok (.iload_n k, 1)) (hl : Ls[k.val]? = some (.val (.int v))) (k : own_Goes p e below T (mkF m pc' Ls (.int v :: st)) Q) : own_Goes p e below T (mkF m pc Ls st) Q := by
  subst hp; exact own_step (fun _ q => XS.iloadN X.here hx rfl hd hl q) k
theorem own_istore (X : Stand p l e R s m args below meth c T locs cells slots) (hx : p.tables.exec = Jvm.exec) {k : Nat} {v : Int32} (hp : pc + 2 = pc') (hd : decode c.code pc = .ok (.istore k, 2)) (hl : storeLocals Ls k (.int v) = some Ls') (k : own_Goes p e below T (mkF m pc' Ls' st) Q) : own_Goes p e below T (mkF m pc Ls (.int v :: st)) Q := by
  subst hp; exact own_step (fun _ q => XS.istore X.here hx rfl hd rfl hl q) k
theorem own_istoreN (X : Stand p l e R s m args below meth c T locs cells slots) (hx : p.tables.exec = Jvm.exec) {k : Fin 4} {v : Int32} (hp : pc + 1 = pc') (hd : decode c.code pc = .ok (.istore_n k, 1)) (hl : storeLocals Ls k.val (.int v) = some Ls') (k : own_Goes p e below T (mkF m pc' Ls' st) Q) : own_Goes p e below T (mkF m pc Ls (.int v :: st)) Q := by
  subst hp; exact own_step (fun _ q => XS.istoreN X.here hx rfl hd rfl hl q) k
theorem own_lload (X : Stand p l e R s m args below meth c T locs cells slots) (hx : p.tables.exec = Jvm.exec) {k : Nat} {v : Int64} (hp : pc + 2 = pc') (hd : decode c.code pc = .ok (.lload k, 2)) (hl : Ls[k]? = some (.val (.long v))) (k : own_Goes p e below T (mkF m pc' Ls (.long v :: st)) Q) : own_Goes p e below T (mkF m pc Ls st) Q := by
  subst hp; exact own_step (fun _ q => XT.lload X.here hx rfl hd hl q) k
theorem own_lloadN (X : Stand p l e R s m args below meth c T locs cells slots) (hx : p.tables.exec = Jvm.exec) {k : Fin 4} {v : Int64} (hp : pc + 1 = pc') (hd : decode c.code pc = .ok (.lload_n k, 1)) (hl : Ls[k.val]? = some (.val (.long v))) (k : own_Goes p e below T (mkF m pc' Ls (.long v :: st)) Q) : own_Goes p e below T (mkF m pc Ls st) Q := by
  subst hp; exact own_step (fun _ q => XT.lloadN X.here hx rfl hd hl q) k
theorem own_lstore (X : Stand p l e R s m args below meth c T locs cells slots) (hx : p.tables.exec = Jvm.exec) {k : Nat} {v : Int64} (hp : pc + 2 = pc') (hd : decode c.code pc = .ok (.lstore k, 2)) (hl : storeLocals Ls k (.long v) = some Ls') (k : own_Goes p e below T (mkF m pc' Ls' st) Q) : own_Goes p e below T (mkF m pc Ls (.long v :: st)) Q := by
  subst hp; exact own_step (fun _ q => XT.lstore X.here hx rfl hd rfl hl q) k
theorem own_lstoreN (X : Stand p l e R s m args below meth c T locs cells slots) (hx : p.tables.exec = Jvm.exec) {k : Fin 4} {v : Int64} (hp : pc + 1 = pc') (hd : decode c.code pc = .ok (.lstore_n k, 1)) (hl : storeLocals Ls k.val (.long v) = some Ls') (k : own_Goes p e below T (mkF m pc' Ls' st) Q) : own_Goes p e below T (mkF m pc Ls (.long v :: st)) Q := by
  subst hp; exact own_step (fun _ q => XT.lstoreN X.here hx rfl hd rfl hl q) k
theorem own_aload (X : Stand p l e R s m args below meth c T locs cells slots) (hx : p.tables.exec = Jvm.exec) {k : Nat} {v : Value} (hp : pc + 2 = pc') (hd : decode c.code pc = .ok (.aload k, 2)) (hl : Ls[k]? = some (.val v)) (hv : v.isRef = true) (k : own_Goes p e below T (mkF m pc' Ls (v :: st)) Q) : own_Goes p e below T (mkF m pc Ls st) Q := by
  subst hp; exact own_step (fun _ q => XS.aload X.here hx rfl hd hl hv q) k
theorem own_aloadN (X : Stand p l e R s m args below meth c T locs cells slots) (hx : p.tables.exec = Jvm.exec) {k : Fin 4} {v : Value} (hp : pc + 1 = pc') (hd : decode c.code pc = .ok (.aload_n k, 1)) (hl : Ls[k.val]? = some (.val v)) (hv : v.isRef = true) (k : own_Goes p e below T (mkF m pc' Ls (v :: st)) Q) : own_Goes p e below T (mkF m pc Ls st) Q := by
  subst hp; exact own_step (fun _ q => XS.aloadN X.here hx rfl hd hl hv q) k
theorem own_astore (X : Stand p l e R s m args below meth c T locs cells slots) (hx : p.tables.exec = Jvm.exec) {k : Nat} {v : Value} (hp : pc + 2 = pc') (hd : decode c.code pc = .ok (.astore k, 2)) (hv : v.isRef = true) (hl : storeLocals Ls k v = some Ls') (k : own_Goes p e below T (mkF m pc' Ls' st) Q) : own_Goes p e below T (mkF m pc Ls (v :: st)) Q := by
  subst hp; exact own_step (fun _ q => XS.astore X.here hx rfl hd rfl hv hl q) k
theorem own_astoreN (X : Stand p l e R s m args below meth c T locs cells slots) (hx : p.tables.exec = Jvm.exec) {k : Fin 4} {v : Value} (hp : pc + 1 = pc') (hd : decode c.code pc = .ok (.astore_n k, 1)) (hv : v.isRef = true) (hl : storeLocals Ls k.val v = some Ls') (k : own_Goes p e below T (mkF m pc' Ls' st) Q) : own_Goes p e below T (mkF m pc Ls (v :: st)) Q := by
  subst hp; exact own_step (fun _ q => XS.astoreN X.here hx rfl hd rfl hv hl q) k
theorem own_iconst (X : Stand p l e R s m args below meth c T locs cells slots) (hx : p.tables.exec = Jvm.exec) {i : Int} {v : Int32} (hp : pc + 1 = pc') (hd : decode c.code pc = .ok (.iconst i, 1)) (hv : Int32.ofInt i = v) (k : own_Goes p e below T (mkF m pc' Ls (.int v :: st)) Q) : own_Goes p e below T (mkF m pc Ls st) Q := by
  subst hp; subst hv; exact own_step (fun _ q => XS.iconst X.here hx rfl hd  q) k
theorem own_bipush (X : Stand p l e R s m args below meth c T locs cells slots) (hx : p.tables.exec = Jvm.exec) {i : Int} {v : Int32} (hp : pc + 2 = pc') (hd : decode c.code pc = .ok (.bipush i, 2)) (hv : (Int8.ofInt i).toInt32 = v) (k : own_Goes p e below T (mkF m pc' Ls (.int v :: st)) Q) : own_Goes p e below T (mkF m pc Ls st) Q := by
  subst hp; subst hv; exact own_step (fun _ q => XS.bipush X.here hx rfl hd  q) k
theorem own_sipush (X : Stand p l e R s m args below meth c T locs cells slots) (hx : p.tables.exec = Jvm.exec) {i : Int} {v : Int32} (hp : pc + 3 = pc') (hd : decode c.code pc = .ok (.sipush i, 3)) (hv : (Int16.ofInt i).toInt32 = v) (k : own_Goes p e below T (mkF m pc' Ls (.int v :: st)) Q) : own_Goes p e below T (mkF m pc Ls st) Q := by
  subst hp; subst hv; exact own_step (fun _ q => XS.sipush X.here hx rfl hd  q) k
theorem own_lconst (X : Stand p l e R s m args below meth c T locs cells slots) (hx : p.tables.exec = Jvm.exec) {i : Fin 2} {v : Int64} (hp : pc + 1 = pc') (hd : decode c.code pc = .ok (.lconst i, 1)) (hv : Int64.ofNat i = v) (k : own_Goes p e below T (mkF m pc' Ls (.long v :: st)) Q) : own_Goes p e below T (mkF m pc Ls st) Q := by
  subst hp; subst hv; exact own_step (fun _ q => XT.lconst X.here hx rfl hd  q) k
theorem own_anull (X : Stand p l e R s m args below meth c T locs cells slots) (hx : p.tables.exec = Jvm.exec)  (hp : pc + 1 = pc') (hd : decode c.code pc = .ok (.aconst_null, 1))  (k : own_Goes p e below T (mkF m pc' Ls (.null :: st)) Q) : own_Goes p e below T (mkF m pc Ls st) Q := by
  subst hp; exact own_step (fun _ q => XS.aconstNull X.here hx rfl hd  q) k
theorem own_iadd (X : Stand p l e R s m args below meth c T locs cells slots) (hx : p.tables.exec = Jvm.exec) {x y v : Int32} (hp : pc + 1 = pc') (hd : decode c.code pc = .ok (.iadd, 1)) (hv : x + y = v) (k : own_Goes p e below T (mkF m pc' Ls (.int v :: st)) Q) : own_Goes p e below T (mkF m pc Ls (.int y :: .int x :: st)) Q := by
  subst hp; subst hv; exact own_step (fun _ q => XS.iadd X.here hx rfl hd rfl q) k
theorem own_isub (X : Stand p l e R s m args below meth c T locs cells slots) (hx : p.tables.exec = Jvm.exec) {x y v : Int32} (hp : pc + 1 = pc') (hd : decode c.code pc = .ok (.isub, 1)) (hv : x - y = v) (k : own_Goes p e below T (mkF m pc' Ls (.int v :: st)) Q) : own_Goes p e below T (mkF m pc Ls (.int y :: .int x :: st)) Q := by
  subst hp; subst hv; exact own_step (fun _ q => XS.isub X.here hx rfl hd rfl q) k
theorem own_imul (X : Stand p l e R s m args below meth c T locs cells slots) (hx : p.tables.exec = Jvm.exec) {x y v : Int32} (hp : pc + 1 = pc') (hd : decode c.code pc = .ok (.imul, 1)) (hv : x * y = v) (k : own_Goes p e below T (mkF m pc' Ls (.int v :: st)) Q) : own_Goes p e below T (mkF m pc Ls (.int y :: .int x :: st)) Q := by
  subst hp; subst hv; exact own_step (fun _ q => XS.imul X.here hx rfl hd rfl q) k
theorem own_iand (X : Stand p l e R s m args below meth c T locs cells slots) (hx : p.tables.exec = Jvm.exec) {x y v : Int32} (hp : pc + 1 = pc') (hd : decode c.code pc = .ok (.iand, 1)) (hv : x &&& y = v) (k : own_Goes p e below T (mkF m pc' Ls (.int v :: st)) Q) : own_Goes p e below T (mkF m pc Ls (.int y :: .int x :: st)) Q := by
  subst hp; subst hv; exact own_step (fun _ q => XS.iand X.here hx rfl hd rfl q) k
theorem own_ior (X : Stand p l e R s m args below meth c T locs cells slots) (hx : p.tables.exec = Jvm.exec) {x y v : Int32} (hp : pc + 1 = pc') (hd : decode c.code pc = .ok (.ior, 1)) (hv : x ||| y = v) (k : own_Goes p e below T (mkF m pc' Ls (.int v :: st)) Q) : own_Goes p e below T (mkF m pc Ls (.int y :: .int x :: st)) Q := by
  subst hp; subst hv; exact own_step (fun _ q => XT.ior X.here hx rfl hd rfl q) k
theorem own_ixor (X : Stand p l e R s m args below meth c T locs cells slots) (hx : p.tables.exec = Jvm.exec) {x y v : Int32} (hp : pc + 1 = pc') (hd : decode c.code pc = .ok (.ixor, 1)) (hv : x ^^^ y = v) (k : own_Goes p e below T (mkF m pc' Ls (.int v :: st)) Q) : own_Goes p e below T (mkF m pc Ls (.int y :: .int x :: st)) Q := by
  subst hp; subst hv; exact own_step (fun _ q => XT.ixor X.here hx rfl hd rfl q) k
theorem own_ishl (X : Stand p l e R s m args below meth c T locs cells slots) (hx : p.tables.exec = Jvm.exec) {x y v : Int32} (hp : pc + 1 = pc') (hd : decode c.code pc = .ok (.ishl, 1)) (hv : x <<< (y &&& 31) = v) (k : own_Goes p e below T (mkF m pc' Ls (.int v :: st)) Q) : own_Goes p e below T (mkF m pc Ls (.int y :: .int x :: st)) Q := by
  subst hp; subst hv; exact own_step (fun _ q => XT.ishl X.here hx rfl hd rfl q) k
theorem own_ishr (X : Stand p l e R s m args below meth c T locs cells slots) (hx : p.tables.exec = Jvm.exec) {x y v : Int32} (hp : pc + 1 = pc') (hd : decode c.code pc = .ok (.ishr, 1)) (hv : x >>> (y &&& 31) = v) (k : own_Goes p e below T (mkF m pc' Ls (.int v :: st)) Q) : own_Goes p e below T (mkF m pc Ls (.int y :: .int x :: st)) Q := by
  subst hp; subst hv; exact own_step (fun _ q => XT.ishr X.here hx rfl hd rfl q) k
theorem own_iushr (X : Stand p l e R s m args below meth c T locs cells slots) (hx : p.tables.exec = Jvm.exec) {x y v : Int32} (hp : pc + 1 = pc') (hd : decode c.code pc = .ok (.iushr, 1)) (hv : XT.ushr x y = v) (k : own_Goes p e below T (mkF m pc' Ls (.int v :: st)) Q) : own_Goes p e below T (mkF m pc Ls (.int y :: .int x :: st)) Q := by
  subst hp; subst hv; exact own_step (fun _ q => XT.iushr X.here hx rfl hd rfl q) k
theorem own_idiv (X : Stand p l e R s m args below meth c T locs cells slots) (hx : p.tables.exec = Jvm.exec) {x y v : Int32} (hp : pc + 1 = pc') (hd : decode c.code pc = .ok (.idiv, 1)) (hy : y ≠ 0) (hv : x / y = v) (k : own_Goes p e below T (mkF m pc' Ls (.int v :: st)) Q) : own_Goes p e below T (mkF m pc Ls (.int y :: .int x :: st)) Q := by
  subst hp; subst hv; exact own_step (fun _ q => XS.idiv X.here hx rfl hd rfl hy q) k
theorem own_irem (X : Stand p l e R s m args below meth c T locs cells slots) (hx : p.tables.exec = Jvm.exec) {x y v : Int32} (hp : pc + 1 = pc') (hd : decode c.code pc = .ok (.irem, 1)) (hy : y ≠ 0) (hv : x % y = v) (k : own_Goes p e below T (mkF m pc' Ls (.int v :: st)) Q) : own_Goes p e below T (mkF m pc Ls (.int y :: .int x :: st)) Q := by
  subst hp; subst hv; exact own_step (fun _ q => iremM X hx rfl hd rfl hy q) k
theorem own_ladd (X : Stand p l e R s m args below meth c T locs cells slots) (hx : p.tables.exec = Jvm.exec) {x y v : Int64} (hp : pc + 1 = pc') (hd : decode c.code pc = .ok (.ladd, 1)) (hv : x + y = v) (k : own_Goes p e below T (mkF m pc' Ls (.long v :: st)) Q) : own_Goes p e below T (mkF m pc Ls (.long y :: .long x :: st)) Q := by
  subst hp; subst hv; exact own_step (fun _ q => XT.ladd X.here hx rfl hd rfl q) k
theorem own_lsub (X : Stand p l e R s m args below meth c T locs cells slots) (hx : p.tables.exec = Jvm.exec) {x y v : Int64} (hp : pc + 1 = pc') (hd : decode c.code pc = .ok (.lsub, 1)) (hv : x - y = v) (k : own_Goes p e below T (mkF m pc' Ls (.long v :: st)) Q) : own_Goes p e below T (mkF m pc Ls (.long y :: .long x :: st)) Q := by
  subst hp; subst hv; exact own_step (fun _ q => XT.lsub X.here hx rfl hd rfl q) k
theorem own_lmul (X : Stand p l e R s m args below meth c T locs cells slots) (hx : p.tables.exec = Jvm.exec) {x y v : Int64} (hp : pc + 1 = pc') (hd : decode c.code pc = .ok (.lmul, 1)) (hv : x * y = v) (k : own_Goes p e below T (mkF m pc' Ls (.long v :: st)) Q) : own_Goes p e below T (mkF m pc Ls (.long y :: .long x :: st)) Q := by
  subst hp; subst hv; exact own_step (fun _ q => XT.lmul X.here hx rfl hd rfl q) k
theorem own_land (X : Stand p l e R s m args below meth c T locs cells slots) (hx : p.tables.exec = Jvm.exec) {x y v : Int64} (hp : pc + 1 = pc') (hd : decode c.code pc = .ok (.land, 1)) (hv : x &&& y = v) (k : own_Goes p e below T (mkF m pc' Ls (.long v :: st)) Q) : own_Goes p e below T (mkF m pc Ls (.long y :: .long x :: st)) Q := by
  subst hp; subst hv; exact own_step (fun _ q => XT.land X.here hx rfl hd rfl q) k
theorem own_lor (X : Stand p l e R s m args below meth c T locs cells slots) (hx : p.tables.exec = Jvm.exec) {x y v : Int64} (hp : pc + 1 = pc') (hd : decode c.code pc = .ok (.lor, 1)) (hv : x ||| y = v) (k : own_Goes p e below T (mkF m pc' Ls (.long v :: st)) Q) : own_Goes p e below T (mkF m pc Ls (.long y :: .long x :: st)) Q := by
  subst hp; subst hv; exact own_step (fun _ q => XT.lor X.here hx rfl hd rfl q) k
theorem own_lxor (X : Stand p l e R s m args below meth c T locs cells slots) (hx : p.tables.exec = Jvm.exec) {x y v : Int64} (hp : pc + 1 = pc') (hd : decode c.code pc = .ok (.lxor, 1)) (hv : x ^^^ y = v) (k : own_Goes p e below T (mkF m pc' Ls (.long v :: st)) Q) : own_Goes p e below T (mkF m pc Ls (.long y :: .long x :: st)) Q := by
  subst hp; subst hv; exact own_step (fun _ q => XT.lxor X.here hx rfl hd rfl q) k
theorem own_ldiv (X : Stand p l e R s m args below meth c T locs cells slots) (hx : p.tables.exec = Jvm.exec) {x y v : Int64} (hp : pc + 1 = pc') (hd : decode c.code pc = .ok (.ldiv, 1)) (hy : y ≠ 0) (hv : x / y = v) (k : own_Goes p e below T (mkF m pc' Ls (.long v :: st)) Q) : own_Goes p e below T (mkF m pc Ls (.long y :: .long x :: st)) Q := by
  subst hp; subst hv; exact own_step (fun _ q => XT.ldiv X.here hx rfl hd rfl hy q) k
theorem own_ineg (X : Stand p l e R s m args below meth c T locs cells slots) (hx : p.tables.exec = Jvm.exec) {x v : Int32} (hp : pc + 1 = pc') (hd : decode c.code pc = .ok (.ineg, 1)) (hv : -x = v) (k : own_Goes p e below T (mkF m pc' Ls (.int v :: st)) Q) : own_Goes p e below T (mkF m pc Ls (.int x :: st)) Q := by
  subst hp; subst hv; exact own_step (fun _ q => XS.ineg X.here hx rfl hd rfl q) k
theorem own_lneg (X : Stand p l e R s m args below meth c T locs cells slots) (hx : p.tables.exec = Jvm.exec) {x v : Int64} (hp : pc + 1 = pc') (hd : decode c.code pc = .ok (.lneg, 1)) (hv : -x = v) (k : own_Goes p e below T (mkF m pc' Ls (.long v :: st)) Q) : own_Goes p e below T (mkF m pc Ls (.long x :: st)) Q := by
  subst hp; subst hv; exact own_step (fun _ q => XT.lneg X.here hx rfl hd rfl q) k
theorem own_i2l (X : Stand p l e R s m args below meth c T locs cells slots) (hx : p.tables.exec = Jvm.exec) {x : Int32} {v : Int64} (hp : pc + 1 = pc') (hd : decode c.code pc = .ok (.i2l, 1)) (hv : x.toInt64 = v) (k : own_Goes p e below T (mkF m pc' Ls (.long v :: st)) Q) : own_Goes p e below T (mkF m pc Ls (.int x :: st)) Q := by
  subst hp; subst hv; exact own_step (fun _ q => XT.i2l X.here hx rfl hd rfl q) k
theorem own_l2i (X : Stand p l e R s m args below meth c T locs cells slots) (hx : p.tables.exec = Jvm.exec) {x : Int64} {v : Int32} (hp : pc + 1 = pc') (hd : decode c.code pc = .ok (.l2i, 1)) (hv : x.toInt32 = v) (k : own_Goes p e below T (mkF m pc' Ls (.int v :: st)) Q) : own_Goes p e below T (mkF m pc Ls (.long x :: st)) Q := by
  subst hp; subst hv; exact own_step (fun _ q => XT.l2i X.here hx rfl hd rfl q) k
theorem own_i2b (X : Stand p l e R s m args below meth c T locs cells slots) (hx : p.tables.exec = Jvm.exec) {x v : Int32} (hp : pc + 1 = pc') (hd : decode c.code pc = .ok (.i2b, 1)) (hv : x.toInt8.toInt32 = v) (k : own_Goes p e below T (mkF m pc' Ls (.int v :: st)) Q) : own_Goes p e below T (mkF m pc Ls (.int x :: st)) Q := by
  subst hp; subst hv; exact own_step (fun _ q => XT.i2b X.here hx rfl hd rfl q) k
theorem own_i2c (X : Stand p l e R s m args below meth c T locs cells slots) (hx : p.tables.exec = Jvm.exec) {x v : Int32} (hp : pc + 1 = pc') (hd : decode c.code pc = .ok (.i2c, 1)) (hv : x.toUInt32.toUInt16.toUInt32.toInt32 = v) (k : own_Goes p e below T (mkF m pc' Ls (.int v :: st)) Q) : own_Goes p e below T (mkF m pc Ls (.int x :: st)) Q := by
  subst hp; subst hv; exact own_step (fun _ q => XT.i2c X.here hx rfl hd rfl q) k
theorem own_i2s (X : Stand p l e R s m args below meth c T locs cells slots) (hx : p.tables.exec = Jvm.exec) {x v : Int32} (hp : pc + 1 = pc') (hd : decode c.code pc = .ok (.i2s, 1)) (hv : x.toInt16.toInt32 = v) (k : own_Goes p e below T (mkF m pc' Ls (.int v :: st)) Q) : own_Goes p e below T (mkF m pc Ls (.int x :: st)) Q := by
  subst hp; subst hv; exact own_step (fun _ q => XT.i2s X.here hx rfl hd rfl q) k
theorem own_lcmp (X : Stand p l e R s m args below meth c T locs cells slots) (hx : p.tables.exec = Jvm.exec) {x y : Int64} (hp : pc + 1 = pc') (hd : decode c.code pc = .ok (.lcmp, 1))  (k : own_Goes p e below T (mkF m pc' Ls (.int (XT.cmpL x y) :: st)) Q) : own_Goes p e below T (mkF m pc Ls (.long y :: .long x :: st)) Q := by
  subst hp; exact own_step (fun _ q => XT.lcmp X.here hx rfl hd rfl q) k
theorem own_iinc (X : Stand p l e R s m args below meth c T locs cells slots) (hx : p.tables.exec = Jvm.exec) {n : Nat} {i : Int} {x v : Int32} (hp : pc + 3 = pc') (hd : decode c.code pc = .ok (.iinc n i, 3)) (hl : Ls[n]? = some (.val (.int x))) (hv : x + Int32.ofInt i = v) (hl' : storeLocals Ls n (.int v) = some Ls') (k : own_Goes p e below T (mkF m pc' Ls' st) Q) : own_Goes p e below T (mkF m pc Ls st) Q := by
  subst hp; subst hv; exact own_step (fun _ q => XS.iinc X.here hx rfl hd hl hl' q) k
theorem own_dup (X : Stand p l e R s m args below meth c T locs cells slots) (hx : p.tables.exec = Jvm.exec) {x : Value} (hp : pc + 1 = pc') (hd : decode c.code pc = .ok (.dup, 1)) (hc : x.category = 1) (k : own_Goes p e below T (mkF m pc' Ls (x :: x :: st)) Q) : own_Goes p e below T (mkF m pc Ls (x :: st)) Q := by
  subst hp; exact own_step (fun _ q => XS.dup X.here hx rfl hd rfl hc q) k
theorem own_pop (X : Stand p l e R s m args below meth c T locs cells slots) (hx : p.tables.exec = Jvm.exec) {x : Value} (hp : pc + 1 = pc') (hd : decode c.code pc = .ok (.pop, 1)) (hc : x.category = 1) (k : own_Goes p e below T (mkF m pc' Ls st) Q) : own_Goes p e below T (mkF m pc Ls (x :: st)) Q := by
  subst hp; exact own_step (fun _ q => XT.pop X.here hx rfl hd rfl hc q) k
theorem own_goto (X : Stand p l e R s m args below meth c T locs cells slots) (hx : p.tables.exec = Jvm.exec) {o : Int} (hd : decode c.code pc = .ok (.goto o, 3)) (ho : 0 ≤ (pc : Int) + o) (hp : ((pc : Int) + o).toNat = pc') (k : own_Goes p e below T (mkF m pc' Ls st) Q) : own_Goes p e below T (mkF m pc Ls st) Q := own_step (fun _ q => XS.goto X.here hx rfl (pc0 := pc) (pc' := pc') rfl hd ho hp q) k
theorem own_ifT (X : Stand p l e R s m args below meth c T locs cells slots) (hx : p.tables.exec = Jvm.exec) {cd : ClassFile.Cond} {x : Int32} {o : Int} (hd : decode c.code pc = .ok (.ifCond cd o, 3)) (hc : ifCond.holds cd x = true) (ho : 0 ≤ (pc : Int) + o) (hp : ((pc : Int) + o).toNat = pc') (k : own_Goes p e below T (mkF m pc' Ls st) Q) : own_Goes p e below T (mkF m pc Ls (.int x :: st)) Q := own_step (fun _ q => XS.ifYes X.here hx rfl (pc0 := pc) (pc' := pc') rfl hd rfl hc ho hp q) k
theorem own_ifF (X : Stand p l e R s m args below meth c T locs cells slots) (hx : p.tables.exec = Jvm.exec) {cd : ClassFile.Cond} {x : Int32} {o : Int} (hp : pc + 3 = pc') (hd : decode c.code pc = .ok (.ifCond cd o, 3)) (hc : ifCond.holds cd x = false) (k : own_Goes p e below T (mkF m pc' Ls st) Q) : own_Goes p e below T (mkF m pc Ls (.int x :: st)) Q := by
  subst hp; exact own_step (fun _ q => XS.ifNo X.here hx rfl hd rfl hc q) k
theorem own_icmpT (X : Stand p l e R s m args below meth c T locs cells slots) (hx : p.tables.exec = Jvm.exec) {cd : ClassFile.Cond} {x y : Int32} {o : Int} (hd : decode c.code pc = .ok (.if_icmp cd o, 3)) (hc : if_icmp.holds cd x y = true) (ho : 0 ≤ (pc : Int) + o) (hp : ((pc : Int) + o).toNat = pc') (k : own_Goes p e below T (mkF m pc' Ls st) Q) : own_Goes p e below T (mkF m pc Ls (.int y :: .int x :: st)) Q := own_step (fun _ q => XS.icmpYes X.here hx rfl (pc0 := pc) (pc' := pc') rfl hd rfl hc ho hp q) k
theorem own_icmpF (X : Stand p l e R s m args below meth c T locs cells slots) (hx : p.tables.exec = Jvm.exec) {cd : ClassFile.Cond} {x y : Int32} {o : Int} (hp : pc + 3 = pc') (hd : decode c.code pc = .ok (.if_icmp cd o, 3)) (hc : if_icmp.holds cd x y = false) (k : own_Goes p e below T (mkF m pc' Ls st) Q) : own_Goes p e below T (mkF m pc Ls (.int y :: .int x :: st)) Q := by
  subst hp; exact own_step (fun _ q => XS.icmpNo X.here hx rfl hd rfl hc q) k
theorem own_acmpT (X : Stand p l e R s m args below meth c T locs cells slots) (hx : p.tables.exec = Jvm.exec) {cd : ClassFile.ACond} {x y : Value} {o : Int} (hd : decode c.code pc = .ok (.if_acmp cd o, 3)) (h1 : x.isRef = true) (h2 : y.isRef = true) (hc : XT.acmp cd x y = true) (ho : 0 ≤ (pc : Int) + o) (hp : ((pc : Int) + o).toNat = pc') (k : own_Goes p e below T (mkF m pc' Ls st) Q) : own_Goes p e below T (mkF m pc Ls (y :: x :: st)) Q := own_step (fun _ q => XT.acmpYes X.here hx rfl (pc0 := pc) (pc' := pc') rfl hd rfl h1 h2 hc ho hp q) k
theorem own_acmpF (X : Stand p l e R s m args below meth c T locs cells slots) (hx : p.tables.exec = Jvm.exec) {cd : ClassFile.ACond} {x y : Value} {o : Int} (hp : pc + 3 = pc') (hd : decode c.code pc = .ok (.if_acmp cd o, 3)) (h1 : x.isRef = true) (h2 : y.isRef = true) (hc : XT.acmp cd x y = false) (k : own_Goes p e below T (mkF m pc' Ls st) Q) : own_Goes p e below T (mkF m pc Ls (y :: x :: st)) Q := by
  subst hp; exact own_step (fun _ q => XT.acmpNo X.here hx rfl hd rfl h1 h2 hc q) k
theorem own_ldc (X : Stand p l e R s m args below meth c T locs cells slots) (hx : p.tables.exec = Jvm.exec) (hZ : Z.Warmed39 s.vm) {own : String} {index : Nat} {v : Int32} (hown : s.vm.findClass own = some m.cls) (w : (Jvm.Cond.constant own index v).before a0 Z = true) (hp : pc + 2 = pc') (hd : decode c.code pc = .ok (.ldc index, 2)) (k : own_Goes p e below T (mkF m pc' Ls (.int v :: st)) Q) : own_Goes p e below T (mkF m pc Ls st) Q := by
  subst hp; exact own_step (fun _ q => X.ldcI hx hown (mvT hZ w) rfl hd q) k
theorem own_ldc2_w (X : Stand p l e R s m args below meth c T locs cells slots) (hx : p.tables.exec = Jvm.exec) (hZ : Z.Warmed39 s.vm) {own : String} {index : Nat} {v : Int64} (hown : s.vm.findClass own = some m.cls) (w : (Jvm.Cond.constantLong own index v).before a0 Z = true) (hp : pc + 3 = pc') (hd : decode c.code pc = .ok (.ldc2_w index, 3)) (k : own_Goes p e below T (mkF m pc' Ls (.long v :: st)) Q) : own_Goes p e below T (mkF m pc Ls st) Q := by
  subst hp; exact own_step (fun _ q => X.ldc2J hx hown (mvT hZ w) rfl hd q) k
theorem own_retW (X : Stand p l e R s m args below meth c T locs cells slots) (hx : p.tables.exec = Jvm.exec) (hlk : meth.locks = false) {w : Option Value} (hv : meth.sig.returnType = none → w = none) {F : JFrame} (run : ∀ fs, (∀ (f : JFrame) (acts : List Action), f.method = m → f.locked = none → f.entered = [] → (doReturn e (T.setTop f) acts w).1 = T.setFrames fs) → Steps p.tables e below (T.setTop F) (T.setFrames fs)) {K : Option Value → Heap → List Loc → Prop} {rc rs : Nat} (hc : cells ≤ rc) (hs : slots ≤ rs) (hQ : K w T.heap locs) : own_Goes p e below T F (own_Ret s K rc rs) := by
  obtain ⟨fs, hr, hrun, hended, hW, hsame⟩ := X.leave (v := w) hv hlk
  exact ⟨_, _, run fs hr, hrun, hended, w, locs, rfl, hQ, ⟨_, rfl⟩, hW, hsame.mono hc hs⟩
theorem own_iret (X : Stand p l e R s m args below meth c T locs cells slots) (hx : p.tables.exec = Jvm.exec) (hlk : meth.locks = false) {z : Int32} (hret : meth.sig.returnType = some .int) (hd : decode c.code pc = .ok (.ireturn, 1)) {K : Option Value → Heap → List Loc → Prop} {rc rs : Nat} (hc : cells ≤ rc) (hs : slots ≤ rs) (hQ : K (some (.int z)) T.heap locs) : own_Goes p e below T (mkF m pc Ls (.int z :: st)) (own_Ret s K rc rs) :=
  own_retW X hx hlk (fun q => by rw [hret] at q; cases q) (fun fs hr => retOut X hx hret rfl (Or.inl ⟨rfl, Or.inl rfl, z, rfl⟩) hd hr) hc hs hQ
theorem own_zret (X : Stand p l e R s m args below meth c T locs cells slots) (hx : p.tables.exec = Jvm.exec) (hlk : meth.locks = false) {z : Int32} {t : FieldType} (hret : meth.sig.returnType = some t) (ht : t = .boolean ∨ t = .byte ∨ t = .char ∨ t = .short) (hd : decode c.code pc = .ok (.ireturn, 1)) {K : Option Value → Heap → List Loc → Prop} {rc rs : Nat} (hc : cells ≤ rc) (hs : slots ≤ rs) (hQ : K (some (.int (nar t z))) T.heap locs) : own_Goes p e below T (mkF m pc Ls (.int z :: st)) (own_Ret s K rc rs) :=
  own_retW X hx hlk (fun q => by rw [hret] at q; cases q) (fun fs hr => retN X hx hret ht hd hr) hc hs hQ
theorem own_lret (X : Stand p l e R s m args below meth c T locs cells slots) (hx : p.tables.exec = Jvm.exec) (hlk : meth.locks = false) {z : Int64} (hret : meth.sig.returnType = some .long) (hd : decode c.code pc = .ok (.lreturn, 1)) {K : Option Value → Heap → List Loc → Prop} {rc rs : Nat} (hc : cells ≤ rc) (hs : slots ≤ rs) (hQ : K (some (.long z)) T.heap locs) : own_Goes p e below T (mkF m pc Ls (.long z :: st)) (own_Ret s K rc rs) :=
  own_retW X hx hlk (fun q => by rw [hret] at q; cases q) (fun fs hr => retOut X hx hret rfl (Or.inr (Or.inl ⟨rfl, rfl, z, rfl⟩)) hd hr) hc hs hQ
theorem own_aret (X : Stand p l e R s m args below meth c T locs cells slots) (hx : p.tables.exec = Jvm.exec) (hlk : meth.locks = false) {z : Value} {t : FieldType} (hret : meth.sig.returnType = some t) (ht : t.isReference = true) (hz : z.isRef = true) (hd : decode c.code pc = .ok (.areturn, 1)) {K : Option Value → Heap → List Loc → Prop} {rc rs : Nat} (hc : cells ≤ rc) (hs : slots ≤ rs) (hQ : K (some z) T.heap locs) : own_Goes p e below T (mkF m pc Ls (z :: st)) (own_Ret s K rc rs) :=
  own_retW X hx hlk (fun q => by rw [hret] at q; cases q) (fun fs hr => retOut X hx hret (by cases t <;> simp [FieldType.isReference] at ht <;> cases z <;> simp [Value.isRef] at hz <;> rfl) (Or.inr (Or.inr (Or.inr (Or.inr ⟨rfl, ht, hz⟩)))) hd hr) hc hs hQ
theorem own_ret (X : Stand p l e R s m args below meth c T locs cells slots) (hx : p.tables.exec = Jvm.exec) (hlk : meth.locks = false) (hret : meth.sig.returnType = none) (hd : decode c.code pc = .ok (.return_, 1)) {K : Option Value → Heap → List Loc → Prop} {rc rs : Nat} (hc : cells ≤ rc) (hs : slots ≤ rs) (hQ : K none T.heap locs) : own_Goes p e below T (mkF m pc Ls []) (own_Ret s K rc rs) :=
  own_retW X hx hlk (fun _ => rfl) (fun fs hr => X.returnOut hx hret hd hr) hc hs hQ
theorem own_dload (X : Stand p l e R s m args below meth c T locs cells slots) (hx : p.tables.exec = Jvm.exec) {k : Nat} {v : UInt64} (hp : pc + 2 = pc') (hd : decode c.code pc = .ok (.dload k, 2)) (hl : Ls[k]? = some (.val (.double v))) (k : own_Goes p e below T (mkF m pc' Ls (.double v :: st)) Q) : own_Goes p e below T (mkF m pc Ls st) Q := by
  subst hp; exact own_step (fun _ q => XS.dload X.here hx rfl hd hl q) k
theorem own_dloadN (X : Stand p l e R s m args below meth c T locs cells slots) (hx : p.tables.exec = Jvm.exec) {k : Fin 4} {v : UInt64} (hp : pc + 1 = pc') (hd : decode c.code pc = .ok (.dload_n k, 1)) (hl : Ls[k.val]? = some (.val (.double v))) (k : own_Goes p e below T (mkF m pc' Ls (.double v :: st)) Q) : own_Goes p e below T (mkF m pc Ls st) Q := by
  subst hp; exact own_step (fun _ q => XS.dloadN X.here hx rfl hd hl q) k
theorem own_dstore (X : Stand p l e R s m args below meth c T locs cells slots) (hx : p.tables.exec = Jvm.exec) {k : Nat} {v : UInt64} (hp : pc + 2 = pc') (hd : decode c.code pc = .ok (.dstore k, 2)) (hl : storeLocals Ls k (.double v) = some Ls') (k : own_Goes p e below T (mkF m pc' Ls' st) Q) : own_Goes p e below T (mkF m pc Ls (.double v :: st)) Q := by
  subst hp; exact own_step (fun _ q => XS.dstore X.here hx rfl hd rfl hl q) k
theorem own_dstoreN (X : Stand p l e R s m args below meth c T locs cells slots) (hx : p.tables.exec = Jvm.exec) {k : Fin 4} {v : UInt64} (hp : pc + 1 = pc') (hd : decode c.code pc = .ok (.dstore_n k, 1)) (hl : storeLocals Ls k.val (.double v) = some Ls') (k : own_Goes p e below T (mkF m pc' Ls' st) Q) : own_Goes p e below T (mkF m pc Ls (.double v :: st)) Q := by
  subst hp; exact own_step (fun _ q => XS.dstoreN X.here hx rfl hd rfl hl q) k
theorem own_dconst0 (X : Stand p l e R s m args below meth c T locs cells slots) (hx : p.tables.exec = Jvm.exec) {v : UInt64} (hp : pc + 1 = pc') (hd : decode c.code pc = .ok (.dconst 0, 1)) (hv : FP.dconst0 = v) (k : own_Goes p e below T (mkF m pc' Ls (.double v :: st)) Q) : own_Goes p e below T (mkF m pc Ls st) Q := by
  subst hp; exact own_step (fun _ q => XS.dconst0 X.here hx rfl hd hv q) k
theorem own_dconst1 (X : Stand p l e R s m args below meth c T locs cells slots) (hx : p.tables.exec = Jvm.exec) {v : UInt64} (hp : pc + 1 = pc') (hd : decode c.code pc = .ok (.dconst 1, 1)) (hv : FP.dconst1 = v) (k : own_Goes p e below T (mkF m pc' Ls (.double v :: st)) Q) : own_Goes p e below T (mkF m pc Ls st) Q := by
  subst hp; exact own_step (fun _ q => XS.dconst1 X.here hx rfl hd hv q) k
theorem own_i2d (X : Stand p l e R s m args below meth c T locs cells slots) (hx : p.tables.exec = Jvm.exec) {x : Int32} {v : UInt64} (hp : pc + 1 = pc') (hd : decode c.code pc = .ok (.i2d, 1)) (hv : FP.i2d x = v) (k : own_Goes p e below T (mkF m pc' Ls (.double v :: st)) Q) : own_Goes p e below T (mkF m pc Ls (.int x :: st)) Q := by
  subst hp; exact own_step (fun _ q => XS.i2dS X.here hx rfl hd rfl hv q) k
theorem own_l2d (X : Stand p l e R s m args below meth c T locs cells slots) (hx : p.tables.exec = Jvm.exec) {x : Int64} {v : UInt64} (hp : pc + 1 = pc') (hd : decode c.code pc = .ok (.l2d, 1)) (hv : FP.l2d x = v) (k : own_Goes p e below T (mkF m pc' Ls (.double v :: st)) Q) : own_Goes p e below T (mkF m pc Ls (.long x :: st)) Q := by
  subst hp; exact own_step (fun _ q => XS.l2dS X.here hx rfl hd rfl hv q) k
theorem own_dneg (X : Stand p l e R s m args below meth c T locs cells slots) (hx : p.tables.exec = Jvm.exec) {x v : UInt64} (hp : pc + 1 = pc') (hd : decode c.code pc = .ok (.dneg, 1)) (hv : FP.dneg x = v) (k : own_Goes p e below T (mkF m pc' Ls (.double v :: st)) Q) : own_Goes p e below T (mkF m pc Ls (.double x :: st)) Q := by
  subst hp; exact own_step (fun _ q => XS.dnegS X.here hx rfl hd rfl hv q) k
theorem own_dcmp (X : Stand p l e R s m args below meth c T locs cells slots) (hx : p.tables.exec = Jvm.exec) {o : CmpOp} {x y : UInt64} {v : Int32} (hp : pc + 1 = pc') (hd : decode c.code pc = .ok (.dcmp o, 1)) (hv : cmpValue (FP.dcmp x y) o = v) (k : own_Goes p e below T (mkF m pc' Ls (.int v :: st)) Q) : own_Goes p e below T (mkF m pc Ls (.double y :: .double x :: st)) Q := by
  subst hp; exact own_step (fun _ q => XS.dcmpS X.here hx rfl hd rfl hv q) k
theorem own_dadd (X : Stand p l e R s m args below meth c T locs cells slots) (hx : p.tables.exec = Jvm.exec) {x y v : UInt64} (hp : pc + 1 = pc') (hd : decode c.code pc = .ok (.dadd, 1)) (hn : Jvm.Free.Fl.NoNaN64 (FP.dadd x y)) (hv : FP.dadd x y = v) (k : own_Goes p e below T (mkF m pc' Ls (.double v :: st)) Q) : own_Goes p e below T (mkF m pc Ls (.double y :: .double x :: st)) Q := by
  subst hp; exact own_step (fun _ q => XS.daddS X.here hx rfl hd rfl hn hv q) k
theorem own_dsub (X : Stand p l e R s m args below meth c T locs cells slots) (hx : p.tables.exec = Jvm.exec) {x y v : UInt64} (hp : pc + 1 = pc') (hd : decode c.code pc = .ok (.dsub, 1)) (hn : Jvm.Free.Fl.NoNaN64 (FP.dsub x y)) (hv : FP.dsub x y = v) (k : own_Goes p e below T (mkF m pc' Ls (.double v :: st)) Q) : own_Goes p e below T (mkF m pc Ls (.double y :: .double x :: st)) Q := by
  subst hp; exact own_step (fun _ q => XS.dsubS X.here hx rfl hd rfl hn hv q) k
theorem own_dmul (X : Stand p l e R s m args below meth c T locs cells slots) (hx : p.tables.exec = Jvm.exec) {x y v : UInt64} (hp : pc + 1 = pc') (hd : decode c.code pc = .ok (.dmul, 1)) (hn : Jvm.Free.Fl.NoNaN64 (FP.dmul x y)) (hv : FP.dmul x y = v) (k : own_Goes p e below T (mkF m pc' Ls (.double v :: st)) Q) : own_Goes p e below T (mkF m pc Ls (.double y :: .double x :: st)) Q := by
  subst hp; exact own_step (fun _ q => XS.dmulS X.here hx rfl hd rfl hn hv q) k
theorem own_ddiv (X : Stand p l e R s m args below meth c T locs cells slots) (hx : p.tables.exec = Jvm.exec) {x y v : UInt64} (hp : pc + 1 = pc') (hd : decode c.code pc = .ok (.ddiv, 1)) (hn : Jvm.Free.Fl.NoNaN64 (FP.ddiv x y)) (hv : FP.ddiv x y = v) (k : own_Goes p e below T (mkF m pc' Ls (.double v :: st)) Q) : own_Goes p e below T (mkF m pc Ls (.double y :: .double x :: st)) Q := by
  subst hp; exact own_step (fun _ q => XS.ddivS X.here hx rfl hd rfl hn hv q) k
theorem own_ldcD (X : Stand p l e R s m args below meth c T locs cells slots) (hx : p.tables.exec = Jvm.exec) (hZ : Z.Warmed39 s.vm) {own : String} {index : Nat} {v : UInt64} (hown : s.vm.findClass own = some m.cls) (w : (Jvm.Cond.constantDouble own index v).before a0 Z = true) (hp : pc + 3 = pc') (hd : decode c.code pc = .ok (.ldc2_w index, 3)) (k : own_Goes p e below T (mkF m pc' Ls (.double v :: st)) Q) : own_Goes p e below T (mkF m pc Ls st) Q := by
  subst hp; exact own_step (fun t q => X.ldc2DoubleC hx hown (mvT hZ w) (g := mkF m pc Ls st) rfl hd t q) k
theorem own_dret (X : Stand p l e R s m args below meth c T locs cells slots) (hx : p.tables.exec = Jvm.exec) (hlk : meth.locks = false) {z : UInt64} (hret : meth.sig.returnType = some .double) (hd : decode c.code pc = .ok (.dreturn, 1)) {K : Option Value → Heap → List Loc → Prop} {rc rs : Nat} (hc : cells ≤ rc) (hs : slots ≤ rs) (hQ : K (some (.double z)) T.heap locs) : own_Goes p e below T (mkF m pc Ls (.double z :: st)) (own_Ret s K rc rs) :=
  own_retW X hx hlk (fun q => by rw [hret] at q; cases q) (fun fs hr => retOut X hx hret rfl (Or.inr (Or.inr (Or.inl ⟨rfl, rfl, z, rfl⟩))) hd hr) hc hs hQ
theorem own_getF (X : Stand p l e R s m args below meth c T locs cells slots) (hx : p.tables.exec = Jvm.exec) (hZ : Z.Warmed39 s.vm) {own R0 O n d host : String} {index : Nat} (hown : s.vm.findClass own = some m.cls) (w : (Jvm.Cond.fieldLink own index R0 n d).before a0 Z = true ∨ (Jvm.Cond.fieldLinkNest own index R0 n d host).before a0 Z = true) (via : Via Z R0 O n d) (eT : T.heap = h) {a : Addr} {v : Value} (F : Fld Z h a O n d v) (hp : pc + 3 = pc') (hd : decode c.code pc = .ok (.getfield index, 3))
    (k : ∀ T', Stand p l e R s m args below meth c T' locs cells slots → T'.heap = h → own_Goes p e below T' (mkF m pc' Ls (v :: st)) Q) : own_Goes p e below T (mkF m pc Ls (.ref a :: st)) Q := by
  subst hp
  obtain ⟨T', X', e', stp⟩ := getF X hx hZ hown w via eT F (g := mkF m pc Ls (.ref a :: st)) rfl rfl hd
  exact own_step stp (k T' X' e')
theorem own_putF (X : Stand p l e R s m args below meth c T locs cells slots) (hx : p.tables.exec = Jvm.exec) (hZ : Z.Warmed39 s.vm) {own R0 O n d host C : String} {index kk : Nat} {ty : FieldType} (hown : s.vm.findClass own = some m.cls) (w : (Jvm.Cond.fieldLink own index R0 n d).before a0 Z = true ∨ (Jvm.Cond.fieldLinkNest own index R0 n d host).before a0 Z = true) (via : Via Z R0 O n d) (eT : T.heap = h) {a : Addr} {v old : Value} (F : Fld Z h a O n d old) (E : Exa Z h a C)
    (L : (Jvm.Cond.lays C O n d).before a0 Z = true ∨ ((Jvm.Cond.laysFinal C O n d).before a0 Z = true ∧ own = O ∧ meth.name = "<init>")) (wi : (Jvm.Cond.instantiable C kk).before a0 Z = true) (hty : parseFieldDescriptor d = some ty) (hn : narrow ty v = v) (hf : fits ty v = true) (hp : pc + 3 = pc') (hd : decode c.code pc = .ok (.putfield index, 3))
    (k : ∀ T' h', Stand p l e R s m args below meth c T' (locs ++ [⟨a, Jvm.RoadKit.slotOf Z O n d⟩]) cells slots → T'.heap = h' → Wr h h' a (Jvm.RoadKit.slotOf Z O n d) v → own_Goes p e below T' (mkF m pc' Ls st) Q) : own_Goes p e below T (mkF m pc Ls (v :: .ref a :: st)) Q := by
  subst hp
  obtain ⟨T', h', X', e', W', stp⟩ := putF X hx hZ hown w via eT F E L wi hty hn hf (g := mkF m pc Ls (v :: .ref a :: st)) rfl rfl hd
  exact own_step stp (k T' h' X' e' W')
theorem own_getS (X : Stand p l e R s m args below meth c T locs cells slots) (hx : p.tables.exec = Jvm.exec) (hZ : Z.Warmed39 s.vm) {own R0 O n d : String} {index : Nat} (hown : s.vm.findClass own = some m.cls) (w : (Jvm.Cond.fieldLink own index R0 n d).before a0 Z = true) (via : Via Z R0 O n d) (eT : T.heap = h) {v : Value} (F : Sta Z h O n d v) (hp : pc + 3 = pc') (hd : decode c.code pc = .ok (.getstatic index, 3))
    (k : ∀ T', Stand p l e R s m args below meth c T' locs cells slots → T'.heap = h → own_Goes p e below T' (mkF m pc' Ls (v :: st)) Q) : own_Goes p e below T (mkF m pc Ls st) Q := by
  subst hp
  obtain ⟨T', X', e', stp⟩ := getS X hx hZ (host := "") hown w via eT F (g := mkF m pc Ls st) rfl hd
  exact own_step stp (k T' X' e')
theorem own_new (X : Stand p l e R s m args below meth c T locs cells slots) (hx : p.tables.exec = Jvm.exec) (hZ : Z.Warmed39 s.vm) {own C : String} {index n : Nat} (hown : s.vm.findClass own = some m.cls) (w : (Jvm.Cond.classLink own index C).before a0 Z = true) (wi : (Jvm.Cond.instantiable C n).before a0 Z = true) (wz : (Jvm.Cond.initialized C).before a0 Z = true) (eT : T.heap = h) (hp : pc + 3 = pc') (hd : decode c.code pc = .ok (.new index, 3)) (hc : cells + 1 ≤ R.cells) (hl : slots + n ≤ R.slots)
    (k : ∀ T' h', Stand p l e R s m args below meth c T' locs (cells + 1) (slots + n) → T'.heap = h' → Ext h h' → Exa Z h' h.size C → (∀ {O nm d : String} {ty : FieldType}, Laid Z a0 C O nm d → parseFieldDescriptor d = some ty → Fld Z h' h.size O nm d (defaultValue ty)) → own_Goes p e below T' (mkF m pc' Ls (.ref h.size :: st)) Q) : own_Goes p e below T (mkF m pc Ls st) Q := by
  subst hp
  obtain ⟨T', h', X', e', E', A', D', -, stp⟩ := newO X hx hZ hown w wi wz eT (g := mkF m pc Ls st) rfl hd hc hl
  exact own_step stp (k T' h' X' e' E' A' D')
theorem own_initO (X : Stand p l e R s m args below meth c T locs cells slots) (hx : p.tables.exec = Jvm.exec) (hZ : Z.Warmed39 s.vm) {own : String} {idx : Nat} (hown : s.vm.findClass own = some m.cls) (w1 : (Jvm.Cond.methodLink own idx Lib.objectInit).before a0 Z = true) (w2 : (Jvm.Cond.instanceMethod Lib.objectInit).before a0 Z = true) (w3 : (Jvm.Cond.code Lib.objectInit ⟨#[0xb1]⟩ 1 none).before a0 Z = true) (eT : T.heap = h) (hsize : Ls.size = c.maxLocals) {a : Addr} (hp : pc + 3 = pc') (hd : decode c.code pc = .ok (.invokespecial idx, 3)) (hf : 1 ≤ R.frames) {W : Nat} (hW : (st.map fun v => v.category).sum ≤ W) (hl : W + 12 ≤ R.locals)
    (k : ∀ T', Stand p l e R s m args below meth c T' locs cells slots → T'.heap = h → own_Goes p e below T' (mkF m pc' Ls st) Q) : own_Goes p e below T (mkF m pc Ls (.ref a :: st)) Q := by
  subst hp
  obtain ⟨T', X', e', stp⟩ := initO X hx hZ hown w1 w2 w3 eT (g := mkF m pc Ls (.ref a :: st)) rfl hsize rfl hd hf (W := W) (by show 2 * 0 + _ ≤ _; omega) hl
  exact own_step stp (k T' X' e')
theorem own_callS (X : Stand p l e R s m args below meth c T locs cells slots) (hx : p.tables.exec = Jvm.exec) (hZ : Z.Warmed39 s.vm) {own : String} {index : Nat} {y : MethodName} {bytes : ByteArray} {maxL : Nat} {rt : Option FieldType} (hown : s.vm.findClass own = some m.cls) (w1 : (Jvm.Cond.methodLink own index y).before a0 Z = true) (w2 : (Jvm.Cond.static y).before a0 Z = true) (w3 : (Jvm.Cond.initialized y.cls).before a0 Z = true) (w4 : (Jvm.Cond.code y bytes maxL rt).before a0 Z = true) (hy : y.cls ≠ "java/lang/invoke/MethodHandle" ∧ y.cls ≠ "java/lang/invoke/VarHandle") {rm : Room} {as' : Array Value} {K : Option Value → Heap → List Loc → Prop} {W : Nat} (hM : MetFree l y (head1 [Jvm.Cond.code y bytes maxL rt] rm) (fun a U => a = as' ∧ Z.Warmed39 U.vm ∧ U.heap = h) (fun _ _ _ _ _ => True) (fun _ U o U' => ∃ v L, o = .returned v ∧ K v U'.heap L ∧ FrameEnd U o U' L rm.cells rm.slots)) (hf : rm.frames + 1 ≤ R.frames) (hl : W + (maxL + 11) + rm.locals ≤ R.locals) (hc : cells + rm.cells ≤ R.cells) (hs : slots + rm.slots ≤ R.slots) (eT : T.heap = h) (hsize : Ls.size = c.maxLocals) {argsL rest : List Value} (has : argsL.toArray = as') (hlen : ∀ sig, parseMethodDescriptor y.desc = some sig → argsL.length = sig.parameters.length) (hst : st = argsL.reverse ++ rest) (hW : (rest.map fun v => v.category).sum ≤ W) (hp : pc + 3 = pc') (hd : decode c.code pc = .ok (.invokestatic index, 3))
    (k : ∀ v T' L, Stand p l e R s m args below meth c T' (locs ++ L) (cells + rm.cells) (slots + rm.slots) → K v T'.heap L → own_Goes p e below T' (mkF m pc' Ls (v.toList ++ rest)) Q) : own_Goes p e below T (mkF m pc Ls st) Q := by
  subst hp
  obtain ⟨v, _, ⟨T', L', k', n'⟩, -, X', ⟨Lc, hQ, l1, y1, z1⟩, stp⟩ := Jvm.LawKit.callS X hx (y := y) hown (mvT hZ w1) (mvT hZ w2) (mvT hZ w3) (mvT hZ w4) hy (backOf (W := W) hM hZ w4 w3 hf hl) (g := mkF m pc Ls st) rfl hsize (argsL := argsL) (rest := rest) hlen hst (by show 2 * 0 + _ ≤ _; omega) hd (fun _ _ => ⟨has, eT, hc, hs⟩)
  dsimp only [Pt.U, Pt.locs, Pt.cells, Pt.slots] at X' l1 y1 z1 stp hQ
  subst l1 y1 z1
  exact own_step stp (k v T' Lc X' hQ)
theorem own_callC (X : Stand p l e R s m args below meth c T locs cells slots) (hx : p.tables.exec = Jvm.exec) (hZ : Z.Warmed39 s.vm) {own : String} {index : Nat} {y : MethodName} {bytes : ByteArray} {maxL : Nat} {a : Addr} (hy1 : y.name = "<init>") (hown : s.vm.findClass own = some m.cls) (w1 : (Jvm.Cond.methodLink own index y).before a0 Z = true) (w2 : (Jvm.Cond.instanceMethod y).before a0 Z = true) (w3 : (Jvm.Cond.initialized y.cls).before a0 Z = true) (w4 : (Jvm.Cond.code y bytes maxL none).before a0 Z = true) (hy : y.cls ≠ "java/lang/invoke/MethodHandle" ∧ y.cls ≠ "java/lang/invoke/VarHandle") {rm : Room} {as' : Array Value} {K : Option Value → Heap → List Loc → Prop} {W : Nat} (hM : MetFree l y (head1 [Jvm.Cond.code y bytes maxL none] rm) (fun a U => a = as' ∧ Z.Warmed39 U.vm ∧ U.heap = h) (fun _ _ _ _ _ => True) (fun _ U o U' => ∃ v L, o = .returned v ∧ K v U'.heap L ∧ FrameEnd U o U' L rm.cells rm.slots)) (hf : rm.frames + 1 ≤ R.frames) (hl : W + (maxL + 11) + rm.locals ≤ R.locals) (hc : cells + rm.cells ≤ R.cells) (hs : slots + rm.slots ≤ R.slots) (eT : T.heap = h) (hsize : Ls.size = c.maxLocals) {argsL rest : List Value} (has : (Value.ref a :: argsL).toArray = as') (hlen : ∀ sig, parseMethodDescriptor y.desc = some sig → argsL.length = sig.parameters.length) (hst : st = argsL.reverse ++ .ref a :: rest) (hW : (rest.map fun v => v.category).sum ≤ W) (hp : pc + 3 = pc') (hd : decode c.code pc = .ok (.invokespecial index, 3))
    (k : ∀ v T' L, Stand p l e R s m args below meth c T' (locs ++ L) (cells + rm.cells) (slots + rm.slots) → K v T'.heap L → own_Goes p e below T' (mkF m pc' Ls (v.toList ++ rest)) Q) : own_Goes p e below T (mkF m pc Ls st) Q := by
  subst hp
  obtain ⟨v, _, ⟨T', L', k', n'⟩, -, X', ⟨Lc, hQ, l1, y1, z1⟩, stp⟩ := X.specialBack hx (y := y) hy1 hown (mvT hZ w1) (mvT hZ w2) (mvT hZ w4) hy (backOf (W := W) hM hZ w4 w3 hf hl) (g := mkF m pc Ls st) rfl hsize (Steps.refl _) (a := a) (argsL := argsL) (rest := rest) hlen hst (by show 2 * 0 + _ ≤ _; omega) hd (fun _ _ => ⟨has, eT, hc, hs⟩)
  dsimp only [Pt.U, Pt.locs, Pt.cells, Pt.slots] at X' l1 y1 z1 stp hQ
  subst l1 y1 z1
  exact own_step (fun _ q => stp.trans q) (k v T' Lc X' hQ)
theorem own_callV (X : Stand p l e R s m args below meth c T locs cells slots) (hx : p.tables.exec = Jvm.exec) (hZ : Z.Warmed39 s.vm) {own C : String} {index : Nat} {y : MethodName} {bytes : ByteArray} {maxL : Nat} {rt : Option FieldType} {a : Addr} (hown : s.vm.findClass own = some m.cls) (w1 : (Jvm.Cond.methodLink own index y).before a0 Z = true) (w2 : (Jvm.Cond.declares y).before a0 Z = true) (w5 : (Jvm.Cond.selects C y y).before a0 Z = true) (w6 : (Jvm.Cond.instanceMethod y).before a0 Z = true) (w3 : (Jvm.Cond.initialized y.cls).before a0 Z = true) (w4 : (Jvm.Cond.code y bytes maxL rt).before a0 Z = true) (E : Exa Z h a C) (hy : y.cls ≠ "java/lang/invoke/MethodHandle" ∧ y.cls ≠ "java/lang/invoke/VarHandle") {rm : Room} {as' : Array Value} {K : Option Value → Heap → List Loc → Prop} {W : Nat} (hM : MetFree l y (head1 [Jvm.Cond.code y bytes maxL rt] rm) (fun a U => a = as' ∧ Z.Warmed39 U.vm ∧ U.heap = h) (fun _ _ _ _ _ => True) (fun _ U o U' => ∃ v L, o = .returned v ∧ K v U'.heap L ∧ FrameEnd U o U' L rm.cells rm.slots)) (hf : rm.frames + 1 ≤ R.frames) (hl : W + (maxL + 11) + rm.locals ≤ R.locals) (hc : cells + rm.cells ≤ R.cells) (hs : slots + rm.slots ≤ R.slots) (eT : T.heap = h) (hsize : Ls.size = c.maxLocals) {argsL rest : List Value} (has : (Value.ref a :: argsL).toArray = as') (hlen : ∀ sig, parseMethodDescriptor y.desc = some sig → argsL.length = sig.parameters.length) (hst : st = argsL.reverse ++ .ref a :: rest) (hW : (rest.map fun v => v.category).sum ≤ W) (hp : pc + 3 = pc') (hd : decode c.code pc = .ok (.invokevirtual index, 3))
    (k : ∀ v T' L, Stand p l e R s m args below meth c T' (locs ++ L) (cells + rm.cells) (slots + rm.slots) → K v T'.heap L → own_Goes p e below T' (mkF m pc' Ls (v.toList ++ rest)) Q) : own_Goes p e below T (mkF m pc Ls st) Q := by
  subst hp
  obtain ⟨cq, kq, qa, qb, qc⟩ := isOf hZ eT E
  obtain ⟨v, _, ⟨T', L', k', n'⟩, -, X', ⟨Lc, hQ, l1, y1, z1⟩, stp⟩ := X.virtualBack hx (y := y) (z := y) hown (mvT hZ w1) (mvT hZ w2) (notFace_of_selects (args := #[]) (mvT hZ w5)) (mvT hZ w5) (mvT hZ w6) hy (backOf (W := W) hM hZ w4 w3 hf hl) qa qc (g := mkF m pc Ls st) rfl hsize (Steps.refl _) (argsL := argsL) (rest := rest) hlen hst (by show 2 * 0 + _ ≤ _; omega) hd (fun _ _ => ⟨has, eT, hc, hs⟩)
  dsimp only [Pt.U, Pt.locs, Pt.cells, Pt.slots] at X' l1 y1 z1 stp hQ
  subst l1 y1 z1
  exact own_step (fun _ q => stp.trans q) (k v T' Lc X' hQ)
theorem own_callP (X : Stand p l e R s m args below meth c T locs cells slots) (hx : p.tables.exec = Jvm.exec) (hZ : Z.Warmed39 s.vm) {own C : String} {index : Nat} {y z z' : MethodName} {bytes : ByteArray} {maxL : Nat} {rt : Option FieldType} {a : Addr} {D : String} (hown : s.vm.findClass own = some m.cls) (w1 : (Jvm.Cond.methodLink own index y).before a0 Z = true) (w6 : (Jvm.Cond.instanceMethod y).before a0 Z = true) (w7 : (Jvm.Cond.privateMethod y).before a0 Z = true) (w5 : (Jvm.Cond.selects C z z').before a0 Z = true) (hcls : z'.cls = y.cls) (w3 : (Jvm.Cond.initialized y.cls).before a0 Z = true) (w4 : (Jvm.Cond.code y bytes maxL rt).before a0 Z = true) (E : Exa Z h a D) (hy : y.cls ≠ "java/lang/invoke/MethodHandle" ∧ y.cls ≠ "java/lang/invoke/VarHandle") {rm : Room} {as' : Array Value} {K : Option Value → Heap → List Loc → Prop} {W : Nat} (hM : MetFree l y (head1 [Jvm.Cond.code y bytes maxL rt] rm) (fun a U => a = as' ∧ Z.Warmed39 U.vm ∧ U.heap = h) (fun _ _ _ _ _ => True) (fun _ U o U' => ∃ v L, o = .returned v ∧ K v U'.heap L ∧ FrameEnd U o U' L rm.cells rm.slots)) (hf : rm.frames + 1 ≤ R.frames) (hl : W + (maxL + 11) + rm.locals ≤ R.locals) (hc : cells + rm.cells ≤ R.cells) (hs : slots + rm.slots ≤ R.slots) (eT : T.heap = h) (hsize : Ls.size = c.maxLocals) {argsL rest : List Value} (has : (Value.ref a :: argsL).toArray = as') (hlen : ∀ sig, parseMethodDescriptor y.desc = some sig → argsL.length = sig.parameters.length) (hst : st = argsL.reverse ++ .ref a :: rest) (hW : (rest.map fun v => v.category).sum ≤ W) (hp : pc + 3 = pc') (hd : decode c.code pc = .ok (.invokevirtual index, 3))
    (k : ∀ v T' L, Stand p l e R s m args below meth c T' (locs ++ L) (cells + rm.cells) (slots + rm.slots) → K v T'.heap L → own_Goes p e below T' (mkF m pc' Ls (v.toList ++ rest)) Q) : own_Goes p e below T (mkF m pc Ls st) Q := by
  subst hp
  have hs5 : (Jvm.Cond.selects C z z').before args s = true := mvT hZ w5
  obtain ⟨c2, r2, m2, -, -, q3, -, kP, hkP, hkPi⟩ := Cond.selects_spec hs5
  have hc2 : s.vm.findClass y.cls = some m2.cls := hcls ▸ findClass_of_methodNamed q3
  have hpriv := Cond.privateMethod_at (mvP hZ w7 (args := #[]))
  have hinst : (Jvm.Cond.instanceMethod y).before args s = true := mvT hZ w6
  have hsel := selects_self_of_private (args := args) hc2 hkP hkPi hpriv hinst hy
  obtain ⟨cq, qc, qc'⟩ := E.cell
  obtain ⟨v, _, ⟨T', L', k', n'⟩, -, X', ⟨Lc, hQ, l1, y1, z1⟩, stp⟩ := X.privateBack hx (y := y) hown (mvT hZ w1) hinst hsel hpriv (mvT hZ w4) hy (backOf (W := W) hM hZ w4 w3 hf hl) (g := mkF m pc Ls st) rfl hsize (Steps.refl _) (a := a) (cell := cq) (by rw [eT]; exact qc) qc' (argsL := argsL) (rest := rest) hlen hst (by show 2 * 0 + _ ≤ _; omega) hd (fun _ _ => ⟨has, eT, hc, hs⟩)
  dsimp only [Pt.U, Pt.locs, Pt.cells, Pt.slots] at X' l1 y1 z1 stp hQ
  subst l1 y1 z1
  exact own_step (fun _ q => stp.trans q) (k v T' Lc X' hQ)
theorem own_in {j : Int32} {k n : Nat} (hj : ¬ j < 0) (hk : j.toNatClampNeg = k) (hn : k < n) {cl : Cell} (hs : cl.slots.size = n) : ¬ (j < 0 ∨ cl.slots.size ≤ j.toNatClampNeg) := by
  rintro (q | q)
  · exact hj q
  · omega
theorem own_Arr.lt {a : Addr} {ty : FieldType} {n : Nat} {f : Nat → Value} (A : own_Arr Z h a ty n f) : a < h.size := by obtain ⟨c, A, -⟩ := A; exact A.lt
theorem own_Arr.ext {a : Addr} {ty : FieldType} {n : Nat} {f : Nat → Value} (E : Ext h h') (A : own_Arr Z h a ty n f) : own_Arr Z h' a ty n f := by obtain ⟨c, A, r⟩ := A; exact ⟨c, A.ext E, r⟩
theorem own_Arr.other {a b : Addr} {ty : FieldType} {n sl : Nat} {v : Value} {f : Nat → Value} (W : Wr h h' a sl v) (A : own_Arr Z h b ty n f) (q : b ≠ a) : own_Arr Z h' b ty n f := by obtain ⟨c, A, r⟩ := A; exact ⟨c, A.other W q, r⟩
theorem own_Arr.keep {a : Addr} {ty : FieldType} {n : Nat} {ws : List Addr} {f : Nat → Value} (K : Keep h h' ws) (A : own_Arr Z h a ty n f) (q : a ∉ ws) : own_Arr Z h' a ty n f := by obtain ⟨c, A, r⟩ := A; exact ⟨c, ⟨K.2.1 a c A.1 q, A.2⟩, r⟩
theorem own_Arr.congr {a : Addr} {ty : FieldType} {n : Nat} {f g : Nat → Value} (A : own_Arr Z h a ty n f) (q : ∀ j, j < n → f j = g j) : own_Arr Z h a ty n g := by
  obtain ⟨c, A, r1, r2, r3⟩ := A
  exact ⟨c, A, r1, r2, fun j hj => by rw [r3 j hj, q j hj]⟩
theorem own_sizWr {a : Addr} {sl n0 : Nat} {v : Value} (W : Wr h h' a sl v) (q : n0 ≤ h.size) : n0 ≤ h'.size := by rw [W.size]; exact q
theorem own_Arr.set {a : Addr} {ty : FieldType} {n k : Nat} {f : Nat → Value} {v : Value} {cl : Cell} (A : Arr Z h a cl ty) (r1 : cl.slots.size = n) (r2 : n < 2 ^ 31) (r3 : ∀ j, j < n → cl.slots[j]? = some (f j)) (hk : k < n) (W : Wr h h' a k v) : own_Arr Z h' a ty n (own_upd f k v) := by
  refine ⟨cl.setSlot k v, Arr.same W A, by rw [sz_set]; exact r1, r2, fun j hj => ?_⟩
  show (cl.slots.setIfInBounds k v)[j]? = _
  rw [Array.getElem?_setIfInBounds]
  by_cases q : k = j
  · subst q; simp [own_upd, r1, hk]
  · have q' : ¬ j = k := fun z => q z.symm
    simp [own_upd, q, q', r3 j hj]
theorem own_newarr (X : Stand p l e R s m args below meth c T locs cells slots) (hx : p.tables.exec = Jvm.exec) (hZ : Z.Warmed39 s.vm) {aty : ArrayType} (w : (Jvm.Cond.arrayClass (newarray.typeOf aty)).before a0 Z = true) (eT : T.heap = h) {n : Int32} (hp : pc + 2 = pc') (hd : decode c.code pc = .ok (.newarray aty, 2)) (hn : ¬ n < 0) {N : Nat} (hN : n.toNatClampNeg = N) {cap : Nat} (hcap : n.toNatClampNeg ≤ cap) (hb : cap * 8 ≤ 536870912) (hc : cells + 1 ≤ R.cells) (hl : slots + cap ≤ R.slots)
    (k : ∀ T' h', Stand p l e R s m args below meth c T' locs (cells + 1) (slots + cap) → T'.heap = h' → Ext h h' → own_Arr Z h' h.size (newarray.typeOf aty) N (fun _ => defaultValue (newarray.typeOf aty)) → own_Goes p e below T' (mkF m pc' Ls (.ref h.size :: st)) Q) : own_Goes p e below T (mkF m pc Ls (.int n :: st)) Q := by
  subst hp
  obtain ⟨T', h', cA, X', e', E', A', stp⟩ := newP X hx hZ w eT (g := mkF m pc Ls (.int n :: st)) rfl hd rfl hn hcap hb hc hl
  refine own_step stp (k T' h' X' e' E' ⟨_, A', by rw [sz_new, hN], by rw [← hN]; exact (back32 hn).2, fun j hj => ?_⟩)
  simp [newA, hN, hj]
theorem own_stI (X : Stand p l e R s m args below meth c T locs cells slots) (hx : p.tables.exec = Jvm.exec) (hZ : Z.Warmed39 s.vm) (eT : T.heap = h) {a : Addr} {n k : Nat} {f : Nat → Value} (A : own_Arr Z h a .int n f) {j : Int32} {x : Int32} (hj : ¬ j < 0) (hk : j.toNatClampNeg = k) (hn : k < n)  (hp : pc + 1 = pc') (hd : decode c.code pc = .ok (.iastore, 1))
    (q : ∀ T' h', Stand p l e R s m args below meth c T' (locs ++ [⟨a, k⟩]) cells slots → T'.heap = h' → Wr h h' a k (.int x) → own_Arr Z h' a .int n (own_upd f k (.int x)) → own_Goes p e below T' (mkF m pc' Ls st) Q) : own_Goes p e below T (mkF m pc Ls (.int x :: .int j :: .ref a :: st)) Q := by
  subst hp
  obtain ⟨cl, A, r1, r2, r3⟩ := A
  obtain ⟨T', h', X', e', W', stp⟩ := stI X hx hZ eT A (own_in hj hk hn r1) (g := mkF m pc Ls (.int x :: .int j :: .ref a :: st)) rfl rfl hd
  subst hk
  exact own_step stp (q T' h' X' e' W' (own_Arr.set A r1 r2 r3 hn W'))
theorem own_stJ (X : Stand p l e R s m args below meth c T locs cells slots) (hx : p.tables.exec = Jvm.exec) (hZ : Z.Warmed39 s.vm) (eT : T.heap = h) {a : Addr} {n k : Nat} {f : Nat → Value} (A : own_Arr Z h a .long n f) {j : Int32} {x : Int64} (hj : ¬ j < 0) (hk : j.toNatClampNeg = k) (hn : k < n)  (hp : pc + 1 = pc') (hd : decode c.code pc = .ok (.lastore, 1))
    (q : ∀ T' h', Stand p l e R s m args below meth c T' (locs ++ [⟨a, k⟩]) cells slots → T'.heap = h' → Wr h h' a k (.long x) → own_Arr Z h' a .long n (own_upd f k (.long x)) → own_Goes p e below T' (mkF m pc' Ls st) Q) : own_Goes p e below T (mkF m pc Ls (.long x :: .int j :: .ref a :: st)) Q := by
  subst hp
  obtain ⟨cl, A, r1, r2, r3⟩ := A
  obtain ⟨T', h', X', e', W', stp⟩ := stJ X hx hZ eT A (own_in hj hk hn r1) (g := mkF m pc Ls (.long x :: .int j :: .ref a :: st)) rfl rfl hd
  subst hk
  exact own_step stp (q T' h' X' e' W' (own_Arr.set A r1 r2 r3 hn W'))
theorem own_stB (X : Stand p l e R s m args below meth c T locs cells slots) (hx : p.tables.exec = Jvm.exec) (hZ : Z.Warmed39 s.vm) (eT : T.heap = h) {a : Addr} {n k : Nat} {f : Nat → Value} (A : own_Arr Z h a .byte n f) {j : Int32} {x y : Int32} (hj : ¬ j < 0) (hk : j.toNatClampNeg = k) (hn : k < n) (hv : nar .byte x = y) (hp : pc + 1 = pc') (hd : decode c.code pc = .ok (.bastore, 1))
    (q : ∀ T' h', Stand p l e R s m args below meth c T' (locs ++ [⟨a, k⟩]) cells slots → T'.heap = h' → Wr h h' a k (.int y) → own_Arr Z h' a .byte n (own_upd f k (.int y)) → own_Goes p e below T' (mkF m pc' Ls st) Q) : own_Goes p e below T (mkF m pc Ls (.int x :: .int j :: .ref a :: st)) Q := by
  subst hp; subst hv
  obtain ⟨cl, A, r1, r2, r3⟩ := A
  obtain ⟨T', h', X', e', W', stp⟩ := stB X hx hZ eT A (own_in hj hk hn r1) (g := mkF m pc Ls (.int x :: .int j :: .ref a :: st)) rfl rfl hd
  subst hk
  exact own_step stp (q T' h' X' e' W' (own_Arr.set A r1 r2 r3 hn W'))
theorem own_stC (X : Stand p l e R s m args below meth c T locs cells slots) (hx : p.tables.exec = Jvm.exec) (hZ : Z.Warmed39 s.vm) (eT : T.heap = h) {a : Addr} {n k : Nat} {f : Nat → Value} (A : own_Arr Z h a .char n f) {j : Int32} {x y : Int32} (hj : ¬ j < 0) (hk : j.toNatClampNeg = k) (hn : k < n) (hv : nar .char x = y) (hp : pc + 1 = pc') (hd : decode c.code pc = .ok (.castore, 1))
    (q : ∀ T' h', Stand p l e R s m args below meth c T' (locs ++ [⟨a, k⟩]) cells slots → T'.heap = h' → Wr h h' a k (.int y) → own_Arr Z h' a .char n (own_upd f k (.int y)) → own_Goes p e below T' (mkF m pc' Ls st) Q) : own_Goes p e below T (mkF m pc Ls (.int x :: .int j :: .ref a :: st)) Q := by
  subst hp; subst hv
  obtain ⟨cl, A, r1, r2, r3⟩ := A
  obtain ⟨T', h', X', e', W', stp⟩ := stC X hx hZ eT A (own_in hj hk hn r1) (g := mkF m pc Ls (.int x :: .int j :: .ref a :: st)) rfl rfl hd
  subst hk
  exact own_step stp (q T' h' X' e' W' (own_Arr.set A r1 r2 r3 hn W'))
theorem own_ldI (X : Stand p l e R s m args below meth c T locs cells slots) (hx : p.tables.exec = Jvm.exec) (hZ : Z.Warmed39 s.vm) (eT : T.heap = h) {a : Addr} {n k : Nat} {f : Nat → Value} (A : own_Arr Z h a .int n f) {j : Int32} (hj : ¬ j < 0) (hk : j.toNatClampNeg = k) (hn : k < n) {v : Value} (hv : f k = v) (hp : pc + 1 = pc') (hd : decode c.code pc = .ok (.iaload, 1)) (q : own_Goes p e below T (mkF m pc' Ls (v :: st)) Q) : own_Goes p e below T (mkF m pc Ls (.int j :: .ref a :: st)) Q := by
  subst hp
  obtain ⟨cl, A, r1, r2, r3⟩ := A
  exact own_step (fun t z => X.iaload hx (j := j) (v := v) (by rw [eT]; exact A.1) (State.isArrayOf_alike hZ.alike A.2.1) A.2.2 (own_in hj hk hn r1) (by rw [hk, r3 k hn, hv]) (g := mkF m pc Ls (.int j :: .ref a :: st)) rfl rfl hd t z) q
theorem own_ldJ (X : Stand p l e R s m args below meth c T locs cells slots) (hx : p.tables.exec = Jvm.exec) (hZ : Z.Warmed39 s.vm) (eT : T.heap = h) {a : Addr} {n k : Nat} {f : Nat → Value} (A : own_Arr Z h a .long n f) {j : Int32} (hj : ¬ j < 0) (hk : j.toNatClampNeg = k) (hn : k < n) {v : Value} (hv : f k = v) (hp : pc + 1 = pc') (hd : decode c.code pc = .ok (.laload, 1)) (q : own_Goes p e below T (mkF m pc' Ls (v :: st)) Q) : own_Goes p e below T (mkF m pc Ls (.int j :: .ref a :: st)) Q := by
  subst hp
  obtain ⟨cl, A, r1, r2, r3⟩ := A
  exact own_step (fun t z => X.laload hx (j := j) (v := v) (by rw [eT]; exact A.1) (State.isArrayOf_alike hZ.alike A.2.1) A.2.2 (own_in hj hk hn r1) (by rw [hk, r3 k hn, hv]) (g := mkF m pc Ls (.int j :: .ref a :: st)) rfl rfl hd t z) q
theorem own_ldB (X : Stand p l e R s m args below meth c T locs cells slots) (hx : p.tables.exec = Jvm.exec) (hZ : Z.Warmed39 s.vm) (eT : T.heap = h) {a : Addr} {n k : Nat} {f : Nat → Value} (A : own_Arr Z h a .byte n f) {j : Int32} (hj : ¬ j < 0) (hk : j.toNatClampNeg = k) (hn : k < n) {v : Value} (hv : f k = v) (hp : pc + 1 = pc') (hd : decode c.code pc = .ok (.baload, 1)) (q : own_Goes p e below T (mkF m pc' Ls (v :: st)) Q) : own_Goes p e below T (mkF m pc Ls (.int j :: .ref a :: st)) Q := by
  subst hp
  obtain ⟨cl, A, r1, r2, r3⟩ := A
  exact own_step (fun t z => X.baloadBytes hx (j := j) (v := v) (by rw [eT]; exact A.1) (State.isArrayOf_alike hZ.alike A.2.1) A.2.2 (own_in hj hk hn r1) (by rw [hk, r3 k hn, hv]) (g := mkF m pc Ls (.int j :: .ref a :: st)) rfl rfl hd t z) q
theorem own_ldC (X : Stand p l e R s m args below meth c T locs cells slots) (hx : p.tables.exec = Jvm.exec) (hZ : Z.Warmed39 s.vm) (eT : T.heap = h) {a : Addr} {n k : Nat} {f : Nat → Value} (A : own_Arr Z h a .char n f) {j : Int32} (hj : ¬ j < 0) (hk : j.toNatClampNeg = k) (hn : k < n) {v : Value} (hv : f k = v) (hp : pc + 1 = pc') (hd : decode c.code pc = .ok (.caload, 1)) (q : own_Goes p e below T (mkF m pc' Ls (v :: st)) Q) : own_Goes p e below T (mkF m pc Ls (.int j :: .ref a :: st)) Q := by
  subst hp
  obtain ⟨cl, A, r1, r2, r3⟩ := A
  exact own_step (fun t z => X.caload hx (j := j) (v := v) (by rw [eT]; exact A.1) (State.isArrayOf_alike hZ.alike A.2.1) A.2.2 (own_in hj hk hn r1) (by rw [hk, r3 k hn, hv]) (g := mkF m pc Ls (.int j :: .ref a :: st)) rfl rfl hd t z) q
theorem own_alen (X : Stand p l e R s m args below meth c T locs cells slots) (hx : p.tables.exec = Jvm.exec) (hZ : Z.Warmed39 s.vm) (eT : T.heap = h) {a : Addr} {ty : FieldType} {n : Nat} {f : Nat → Value} (A : own_Arr Z h a ty n f) {v : Int32} (hv : n.toInt32 = v) (hp : pc + 1 = pc') (hd : decode c.code pc = .ok (.arraylength, 1)) (q : own_Goes p e below T (mkF m pc' Ls (.int v :: st)) Q) : own_Goes p e below T (mkF m pc Ls (.ref a :: st)) Q := by
  subst hp; subst hv
  obtain ⟨cl, A, r1, r2, r3⟩ := A
  subst r1
  exact own_step (fun t z => X.arraylength hx (cell := cl) (by rw [eT]; exact A.1) (State.isArrayOf_alike hZ.alike A.2.1) (g := mkF m pc Ls (.ref a :: st)) rfl rfl hd t z) q
theorem own_instY (X : Stand p l e R s m args below meth c T locs cells slots) (hx : p.tables.exec = Jvm.exec) (hZ : Z.Warmed39 s.vm) {own K : String} {index : Nat} (hown : s.vm.findClass own = some m.cls) (w : (Jvm.Cond.classLink own index K).before a0 Z = true) (eT : T.heap = h) {a : Addr} (F : Ins Z h a K true) (hp : pc + 3 = pc') (hd : decode c.code pc = .ok (.instanceof index, 3))
    (k : ∀ T', Stand p l e R s m args below meth c T' locs cells slots → T'.heap = h → own_Goes p e below T' (mkF m pc' Ls (.int 1 :: st)) Q) : own_Goes p e below T (mkF m pc Ls (.ref a :: st)) Q := by
  subst hp
  obtain ⟨T', X', e', stp⟩ := instY X hx hZ hown w eT F (g := mkF m pc Ls (.ref a :: st)) rfl rfl hd
  exact own_step stp (k T' X' e')
theorem own_castY (X : Stand p l e R s m args below meth c T locs cells slots) (hx : p.tables.exec = Jvm.exec) (hZ : Z.Warmed39 s.vm) {own K : String} {index : Nat} (hown : s.vm.findClass own = some m.cls) (w : (Jvm.Cond.classLink own index K).before a0 Z = true) (eT : T.heap = h) {a : Addr} (F : Ins Z h a K true) (hp : pc + 3 = pc') (hd : decode c.code pc = .ok (.checkcast index, 3))
    (k : ∀ T', Stand p l e R s m args below meth c T' locs cells slots → T'.heap = h → own_Goes p e below T' (mkF m pc' Ls (.ref a :: st)) Q) : own_Goes p e below T (mkF m pc Ls (.ref a :: st)) Q := by
  subst hp
  obtain ⟨T', X', e', stp⟩ := castY X hx hZ hown w eT F (g := mkF m pc Ls (.ref a :: st)) rfl rfl hd
  exact own_step stp (k T' X' e')
theorem own_instNo (X : Stand p l e R s m args below meth c T locs cells slots) (hx : p.tables.exec = Jvm.exec) (hZ : Z.Warmed39 s.vm) {own K C : String} {index : Nat} (hown : s.vm.findClass own = some m.cls) (w : (Jvm.Cond.classLink own index K).before a0 Z = true) (eT : T.heap = h) {a : Addr} (E : Exa Z h a C) (F : ∃ c t, Z.vm.findClass C = some c ∧ Z.vm.findClass K = some t ∧ Z.vm.assignable c t = false) (hp : pc + 3 = pc') (hd : decode c.code pc = .ok (.instanceof index, 3))
    (k : ∀ T', Stand p l e R s m args below meth c T' locs cells slots → T'.heap = h → own_Goes p e below T' (mkF m pc' Ls (.int 0 :: st)) Q) : own_Goes p e below T (mkF m pc Ls (.ref a :: st)) Q := by
  subst hp
  obtain ⟨T', X', e', stp⟩ := instNo X hx hZ hown w eT E F (g := mkF m pc Ls (.ref a :: st)) rfl rfl hd
  exact own_step stp (k T' X' e')
theorem own_instNull (X : Stand p l e R s m args below meth c T locs cells slots) (hx : p.tables.exec = Jvm.exec) {index : Nat} (hp : pc + 3 = pc') (hd : decode c.code pc = .ok (.instanceof index, 3)) (k : own_Goes p e below T (mkF m pc' Ls (.int 0 :: st)) Q) : own_Goes p e below T (mkF m pc Ls (.null :: st)) Q := by
  subst hp; exact own_step (fun t q => X.instanceofNull hx (g := mkF m pc Ls (.null :: st)) rfl rfl hd t q) k
theorem own_fitR {v : Value} {C : String} (hv : v.isRef = true) : fits (.object C) v = true := by cases v <;> simp_all [fits, Value.isRef]
end Own
/-! 2. THE BODIES -/
open Jvm.Free.Fl Jvm.FP.Core
/-- a double that is no NaN, and its value in units of the least double -/
def own_Z (a : UInt64) (n : Nat) : Prop := val64 a ≠ .nan ∧ zval b64 (val64 a) = (n : Int)
theorem own_nnZ {a : UInt64} {n : Nat} (h : own_Z a n) : NoNaN64 a := noNaN64_no.mpr ((notNaN_iff a).mpr h.1)
theorem own_dc {a b : UInt64} {m n : Nat} (ha : own_Z a m) (hb : own_Z b n) : FP.dcmp a b = some (compare (m : Int) (n : Int)) := by
  show order (val64 a) (val64 b) = _
  rw [order_zval good_b64 (val64_fits a) (val64_fits b) ha.1 hb.1, ha.2, hb.2]
theorem own_dlt {a b : UInt64} {m n : Nat} (ha : own_Z a m) (hb : own_Z b n) (h : m < n) (k : CmpOp) : cmpValue (FP.dcmp a b) k = -1 := by
  rw [own_dc ha hb, compare_ite, if_pos (by omega)]; rfl
theorem own_deq {a b : UInt64} {m n : Nat} (ha : own_Z a m) (hb : own_Z b n) (h : m = n) (k : CmpOp) : cmpValue (FP.dcmp a b) k = 0 := by
  rw [own_dc ha hb, compare_ite, if_neg (by omega), if_pos (by omega)]; rfl
theorem own_dgt {a b : UInt64} {m n : Nat} (ha : own_Z a m) (hb : own_Z b n) (h : n < m) (k : CmpOp) : cmpValue (FP.dcmp a b) k = 1 := by
  rw [own_dc ha hb, compare_ite, if_neg (by omega), if_neg (by omega)]; rfl
theorem own_grid {k e : Nat} (hk : k < 2 ^ 53) (he : e ≤ 1000) : ∃ V : Datum, Jvm.FP.Core.fits b64 V ∧ V ≠ .nan ∧ zmag b64 V = k * 2 ^ (1074 - e) := by
  obtain ⟨c, q, h1, h2⟩ := round_exact good_b64 false (c := k) (q := -(e : Int)) hk (by rw [qmin_b64]; omega) (by rw [show b64.qmax = 971 from by decide]; omega)
  refine ⟨.fin false c q, h1 ▸ round_fits good_b64 _, Datum.noConfusion, ?_⟩
  show inUnits c q b64.qmin = _
  rw [h2]; unfold inUnits; rw [qmin_b64]
  congr 2; omega
def own_zq (c t : Nat) : Nat := zmag b64 (roundRatio b64 false c t 0)
theorem own_unit (c : Nat) {e : Nat} (he : e ≤ 1000) : inUnits c 0 b64.qmin = c * 2 ^ e * 2 ^ (1074 - e) := by
  unfold inUnits; rw [qmin_b64, Nat.mul_assoc, ← Nat.pow_add]; congr 2; omega
theorem own_zle {c t k e : Nat} (ht : 0 < t) (hk : k < 2 ^ 53) (he : e ≤ 1000) (h : c * 2 ^ e ≤ k * t) : own_zq c t ≤ k * 2 ^ (1074 - e) := by
  obtain ⟨V, v1, v2, v3⟩ := own_grid hk he
  rw [← v3]
  refine zmag_roundRatio_le good_b64 ht v1 v2 (e0 := b64.qmin) (Int.le_refl _) (by rw [qmin_b64]; decide) ?_
  rw [own_unit c he, v3, Int.sub_self, show (2 : Nat) ^ (0 : Int).toNat = 1 from rfl, Nat.mul_one]
  have := Nat.mul_le_mul_right (2 ^ (1074 - e)) h
  rw [Nat.mul_right_comm k]; exact this
theorem own_zge {c t k e : Nat} (ht : 0 < t) (hk : k < 2 ^ 53) (he : e ≤ 1000) (h : k * t ≤ c * 2 ^ e) : k * 2 ^ (1074 - e) ≤ own_zq c t := by
  obtain ⟨V, v1, v2, v3⟩ := own_grid hk he
  rw [← v3]
  refine zmag_roundRatio_ge good_b64 ht v1 (e0 := b64.qmin) (Int.le_refl _) (by rw [qmin_b64]; decide) ?_
  rw [own_unit c he, v3, Int.sub_self, show (2 : Nat) ^ (0 : Int).toNat = 1 from rfl, Nat.mul_one]
  have := Nat.mul_le_mul_right (2 ^ (1074 - e)) h
  rw [Nat.mul_right_comm k]; exact this
theorem own_z0 (t : Nat) : own_zq 0 t = 0 := by
  unfold own_zq roundRatio; rw [if_pos rfl]; show inUnits 0 _ _ = 0; unfold inUnits; rw [Nat.zero_mul]
theorem own_zpos {c t : Nat} (hc : 0 < c) (ht : 0 < t) (h : t < 2 ^ 31) : 0 < own_zq c t :=
  Nat.lt_of_lt_of_le (Nat.mul_pos (by decide) (Nat.two_pow_pos _)) (own_zge (k := 1) (e := 40) ht (by decide) (by decide) (by omega))
theorem own_zone {c t : Nat} (hc : c ≤ t) (ht : 0 < t) : own_zq c t ≤ 1 * 2 ^ (1074 - 0) := own_zle ht (by decide) (by decide) (by omega)
theorem own_zone1 {t : Nat} (ht : 0 < t) : own_zq t t = 1 * 2 ^ (1074 - 0) := Nat.le_antisymm (own_zone (Nat.le_refl _) ht) (own_zge ht (by decide) (by decide) (by omega))
theorem own_zhalf {t : Nat} (ht : 0 < t) : own_zq t (2 * t) = 1 * 2 ^ (1074 - 1) := Nat.le_antisymm (own_zle (by omega) (by decide) (by decide) (by omega)) (own_zge (by omega) (by decide) (by decide) (by omega))
theorem own_zlt {c d t : Nat} (hcd : c < d) (hd : d ≤ t) (ht : 0 < t) (h : t < 2 ^ 31) : own_zq c t < own_zq d t := by
  have q1 := Nat.div_add_mod (c * 2 ^ 33) t
  have q2 := Nat.mod_lt (c * 2 ^ 33) ht
  generalize hk : c * 2 ^ 33 / t = k at *
  rw [Nat.mul_comm] at q1
  have e1 : (k + 1) * t = k * t + t := by rw [Nat.add_mul, Nat.one_mul]
  have e2 : (k + 2) * t = k * t + 2 * t := by rw [Nat.add_mul]
  have kb : k ≤ 2 ^ 33 := by rw [← hk]; exact Nat.div_le_of_le_mul (by rw [Nat.mul_comm t]; exact Nat.mul_comm c _ ▸ Nat.mul_le_mul_left _ (by omega))
  refine Nat.lt_of_le_of_lt (own_zle (k := k + 1) (e := 33) ht (by omega) (by decide) (by omega)) (Nat.lt_of_lt_of_le ?_ (own_zge (k := k + 2) (e := 33) ht (by omega) (by decide) (by omega)))
  exact Nat.mul_lt_mul_of_pos_right (by omega) (Nat.two_pow_pos _)
theorem own_pow (N : Nat) : ∀ (j c : Nat), 1 ≤ c → c ≤ N → N ≤ c + j → ∃ e, e ≤ j ∧ N ≤ c * 2 ^ e ∧ c * 2 ^ e ≤ 2 * N
  | 0, c, h1, h2, h3 => ⟨0, Nat.le_refl _, by omega, by omega⟩
  | j + 1, c, h1, h2, h3 => by
    by_cases q : 2 * c ≤ N
    · obtain ⟨e, a, b, d⟩ := own_pow N j (2 * c) (by omega) q (by omega)
      refine ⟨e + 1, by omega, ?_, ?_⟩ <;> rw [Nat.pow_succ, Nat.mul_comm (2 ^ e), ← Nat.mul_assoc, Nat.mul_comm c] <;> assumption
    · exact ⟨1, by omega, by omega, by omega⟩
theorem own_pow2 {N c : Nat} (h1 : 1 ≤ c) (h2 : c ≤ N) (hN : N < 2 ^ 64) : ∃ e, e ≤ 64 ∧ N ≤ c * 2 ^ e ∧ c * 2 ^ e ≤ 2 * N := by
  obtain ⟨e, a, b, d⟩ := own_pow N N c h1 h2 (by omega)
  by_cases q : e ≤ 64
  · exact ⟨e, q, b, d⟩
  · exfalso
    have := Nat.pow_le_pow_right (n := 2) (by decide) (show 66 ≤ e + 1 by omega)
    have r : 2 ^ (e + 1) = 2 * 2 ^ e := by rw [Nat.pow_succ, Nat.mul_comm]
    have r2 : 1 * 2 ^ e ≤ c * 2 ^ e := Nat.mul_le_mul_right _ h1
    omega
theorem own_zwide {c t : Nat} (hc : c ≤ t) (ht : 0 < t) (h : t < 2 ^ 31) : own_zq c (t + 1) ≤ own_zq c t := by
  by_cases c0 : c = 0
  · rw [c0, own_z0, own_z0]; exact Nat.le_refl _
  have hN : t * (t + 1) < 2 ^ 64 := by
    have := Nat.mul_le_mul (show t ≤ 2 ^ 31 by omega) (show t + 1 ≤ 2 ^ 31 by omega)
    omega
  have hcN : c ≤ t * (t + 1) := Nat.le_trans hc (Nat.le_mul_of_pos_right _ (by omega))
  obtain ⟨e, e1, e2, e3⟩ := own_pow2 (by omega) hcN hN
  have q1 := Nat.div_add_mod (c * 2 ^ e) t
  have q2 := Nat.mod_lt (c * 2 ^ e) ht
  generalize hk : c * 2 ^ e / t = k at *
  have kb : k ≤ 2 * (t + 1) := by rw [← hk]; exact Nat.div_le_of_le_mul (by rw [show t * (2 * (t + 1)) = 2 * (t * (t + 1)) by rw [Nat.mul_left_comm]]; exact e3)
  have kl : t + 1 ≤ k := by rw [← hk]; exact (Nat.le_div_iff_mul_le ht).mpr (by rw [Nat.mul_comm (t + 1)]; exact e2)
  rw [Nat.mul_comm] at q1
  refine Nat.le_trans (own_zle (k := k) (e := e) (by omega) (by omega) (by omega) ?_) (own_zge (k := k) (e := e) ht (by omega) (by omega) (by omega))
  rw [Nat.mul_add, Nat.mul_one]; omega
theorem own_shape {x : Int32} (h : 0 ≤ x.toInt) : ∃ c q, val64 (FP.i2d x) = .fin false c q ∧ c * 2 ^ q.toNat = x.toInt.toNat * 2 ^ (-q).toNat := by
  have hd : DInt x.toInt (FP.i2d x) := i2d_int x
  obtain ⟨c, q, e⟩ := l2d_shape x.toInt64
  rw [← i2d_l2d, Int32.toInt_toInt64, decide_eq_false (by omega)] at e
  have e' : val64 (FP.i2d x) = .fin false c q := e
  refine ⟨c, q, e', ?_⟩
  unfold DInt at hd
  rw [e'] at hd
  have h2 : ((c * 2 ^ q.toNat : Nat) : Int) = x.toInt * ((2 ^ (-q).toNat : Nat) : Int) := hd
  have h3 : x.toInt = (x.toInt.toNat : Int) := by omega
  rw [h3, ← Int.natCast_mul] at h2
  exact Int.ofNat.inj h2
theorem own_cong {c d a b : Nat} {q r : Int} (h1 : c * 2 ^ q.toNat = a * 2 ^ (-q).toNat) (h2 : d * 2 ^ r.toNat = b * 2 ^ (-r).toNat) : c * b * 2 ^ ((q - r) - 0).toNat = a * d * 2 ^ (0 - (q - r)).toNat := by
  have p1 := Nat.two_pow_pos q.toNat
  have p2 := Nat.two_pow_pos (-r).toNat
  apply Nat.eq_of_mul_eq_mul_right (Nat.mul_pos p1 p2)
  calc c * b * 2 ^ ((q - r) - 0).toNat * (2 ^ q.toNat * 2 ^ (-r).toNat) = (c * 2 ^ q.toNat) * (b * 2 ^ (-r).toNat) * 2 ^ ((q - r) - 0).toNat := by ac_rfl
    _ = (a * 2 ^ (-q).toNat) * (d * 2 ^ r.toNat) * 2 ^ ((q - r) - 0).toNat := by rw [h1, h2]
    _ = a * d * (2 ^ (-q).toNat * 2 ^ r.toNat * 2 ^ ((q - r) - 0).toNat) := by ac_rfl
    _ = a * d * (2 ^ (0 - (q - r)).toNat * 2 ^ q.toNat * 2 ^ (-r).toNat) := by rw [← Nat.pow_add, ← Nat.pow_add, ← Nat.pow_add, ← Nat.pow_add]; congr 2; omega
    _ = _ := by ac_rfl
theorem own_quot {x y : Int32} (hx : 0 ≤ x.toInt) (hy : 0 < y.toInt) : val64 (FP.ddiv (FP.i2d x) (FP.i2d y)) = roundRatio b64 false x.toInt.toNat y.toInt.toNat 0 := by
  obtain ⟨c, q, e1, e2⟩ := own_shape hx
  obtain ⟨d, r, f1, f2⟩ := own_shape (Int.le_of_lt hy)
  have hy' : 0 < y.toInt.toNat := by omega
  have hd : 0 < d := by
    apply Nat.pos_of_ne_zero; intro z; rw [z, Nat.zero_mul] at f2
    have := Nat.mul_pos hy' (Nat.two_pow_pos (-r).toNat); omega
  have := val64_ddiv (FP.i2d x) (FP.i2d y)
  rw [e1, f1] at this
  refine Eq.trans this ?_
  show (if d = 0 then _ else roundRatio b64 (false != false) c d (q - r)) = _
  rw [if_neg (by omega)]
  exact roundRatio_congr hd hy' (own_cong e2 f2)
theorem own_Zq {x y : Int32} (hx : 0 ≤ x.toInt) (hy : 0 < y.toInt) : own_Z (FP.ddiv (FP.i2d x) (FP.i2d y)) (own_zq x.toInt.toNat y.toInt.toNat) := by
  unfold own_Z
  rw [own_quot hx hy]
  refine ⟨roundRatio_ne_nan _ _ _ _ _, ?_⟩
  unfold zval; rw [sgn_roundRatio]; rfl
theorem own_Z0 : own_Z FP.dconst0 0 := ⟨by rw [show val64 FP.dconst0 = .fin false 0 b64.qmin from val64_dconst0]; exact Datum.noConfusion, by rw [show val64 FP.dconst0 = .fin false 0 b64.qmin from val64_dconst0]; decide +kernel⟩
theorem own_Z1 : own_Z FP.dconst1 (1 * 2 ^ (1074 - 0)) := ⟨by rw [show val64 FP.dconst1 = .fin false (2 ^ 52) (-52) from val64_dconst1]; exact Datum.noConfusion, by rw [show val64 FP.dconst1 = .fin false (2 ^ 52) (-52) from val64_dconst1]; decide +kernel⟩
theorem own_vh : val64 4602678819172646912 = .fin false (2 ^ 52) (-53) := by decide +kernel
theorem own_Zh : own_Z 4602678819172646912 (1 * 2 ^ (1074 - 1)) := ⟨by rw [own_vh]; exact Datum.noConfusion, by rw [own_vh]; decide +kernel⟩
theorem own_i0 (x : Int32) : x = 0 ↔ x.toInt = 0 := ⟨fun q => by rw [q]; rfl, fun q => Int32.toInt_inj.mp q⟩
theorem own_all {x t : Int32} (h0 : 0 ≤ x.toInt) (h1 : x.toInt ≤ t.toInt) (h2 : 0 < t.toInt) :
    (x = 0 → 0 = own_zq x.toInt.toNat t.toInt.toNat) ∧ (¬ x = 0 → 0 < own_zq x.toInt.toNat t.toInt.toNat) ∧ (x = t → own_zq x.toInt.toNat t.toInt.toNat = 1 * 2 ^ (1074 - 0)) ∧ (¬ x = t → own_zq x.toInt.toNat t.toInt.toNat < 1 * 2 ^ (1074 - 0)) := by
  have hb := Int32.toInt_lt t
  refine ⟨fun q => ?_, fun q => ?_, fun q => ?_, fun q => ?_⟩
  · rw [(own_i0 x).mp q]; exact (own_z0 _).symm
  · have : ¬ x.toInt = 0 := fun z => q ((own_i0 x).mpr z)
    exact own_zpos (by omega) (by omega) (by omega)
  · rw [q]; exact own_zone1 (by omega)
  · have : ¬ x.toInt = t.toInt := fun z => q (Int32.toInt_inj.mp z)
    rw [← own_zone1 (t := t.toInt.toNat) (by omega)]
    exact own_zlt (by omega) (Nat.le_refl _) (by omega) (by omega)
theorem own_incr {x y t : Int32} (h0 : 0 ≤ x.toInt) (h1 : y.toInt ≤ t.toInt) (h2 : 0 < t.toInt) (h : x < y) : own_zq x.toInt.toNat t.toInt.toNat < own_zq y.toInt.toNat t.toInt.toNat := by
  have hb := Int32.toInt_lt t
  rw [Int32.lt_iff_toInt_lt] at h
  exact own_zlt (by omega) (by omega) (by omega) (by omega)
theorem own_tw {x : Int32} (h0 : 0 ≤ x.toInt) (h1 : x.toInt < 2 ^ 30) : ((2 : Int32) * x).toInt = 2 * x.toInt := by
  have e : (2 : Int32).toInt = 2 := rfl
  rw [Jvm.Kit.i32_mul (by rw [e]; omega) (by rw [e]; omega), e]
theorem own_suc {x : Int32} (h0 : 0 ≤ x.toInt) (h1 : x.toInt < 2 ^ 30) : (x + (1 : Int32)).toInt = x.toInt + 1 := by
  have e : (1 : Int32).toInt = 1 := rfl
  rw [Jvm.Kit.i32_add (by rw [e]; omega) (by rw [e]; omega), e]
theorem own_scale {x t : Int32} (h0 : 0 ≤ x.toInt) (h1 : x.toInt ≤ t.toInt) (h2 : 0 < t.toInt) (h3 : t.toInt < 2 ^ 30) : own_zq ((2 : Int32) * x).toInt.toNat ((2 : Int32) * t).toInt.toNat = own_zq x.toInt.toNat t.toInt.toNat := by
  rw [own_tw h0 (by omega), own_tw (by omega) h3, show (2 * x.toInt).toNat = 2 * x.toInt.toNat by omega, show (2 * t.toInt).toNat = 2 * t.toInt.toNat by omega]
  unfold own_zq
  rw [roundRatio_congr (A := 2 * x.toInt.toNat) (B := 2 * t.toInt.toNat) (A' := x.toInt.toNat) (B' := t.toInt.toNat) (e' := 0) (by omega) (by omega) (congrArg (· * _) (by ac_rfl))]
theorem own_half {t : Int32} (h2 : 0 < t.toInt) (h3 : t.toInt < 2 ^ 30) : own_zq t.toInt.toNat ((2 : Int32) * t).toInt.toNat = 1 * 2 ^ (1074 - 1) := by
  rw [own_tw (by omega) h3, show (2 * t.toInt).toNat = 2 * t.toInt.toNat by omega]; exact own_zhalf (by omega)
theorem own_wide {x t : Int32} (h1 : x.toInt ≤ t.toInt) (h2 : 0 < t.toInt) (h3 : t.toInt < 2 ^ 30) : own_zq x.toInt.toNat (t + (1 : Int32)).toInt.toNat ≤ own_zq x.toInt.toNat t.toInt.toNat := by
  rw [own_suc (by omega) h3, show (t.toInt + 1).toNat = t.toInt.toNat + 1 by omega]; exact own_zwide (by omega) (by omega) (by omega)
theorem own_dle {a b : UInt64} {m n : Nat} (ha : own_Z a m) (hb : own_Z b n) (h : m ≤ n) (k : CmpOp) : ¬ (0 : Int32) < cmpValue (FP.dcmp a b) k := by
  rcases Nat.lt_or_ge m n with q | q
  · rw [own_dlt ha hb q k]; decide
  · rw [own_deq ha hb (Nat.le_antisymm h q) k]; decide
def own_imax (x y : Int32) : Int32 := if x < y then y else x
theorem own_th (x : Int32) : 0 < (own_imax (1 : Int32) (x &&& (1073741823 : Int32))).toInt ∧ (own_imax (1 : Int32) (x &&& (1073741823 : Int32))).toInt < 2 ^ 30 := by
  have e1 : (x &&& 1073741823).toInt = x.toInt % 2 ^ 30 := Jvm.Kit.i32_mask x 1073741823 (k := 30) (by decide) (by decide)
  have e2 : (1 : Int32).toInt = 1 := rfl
  unfold own_imax
  by_cases q : (1 : Int32) < (x &&& (1073741823 : Int32))
  · rw [if_pos q]; rw [Int32.lt_iff_toInt_lt] at q; omega
  · rw [if_neg q]; omega
theorem own_tnz {t : Int32} (h : 0 < t.toInt ∧ t.toInt < 2 ^ 30) : (t + (1 : Int32)) ≠ 0 := by
  intro q; have e := own_suc (Int.le_of_lt h.1) h.2; rw [q] at e; have : (0 : Int32).toInt = 0 := rfl; omega
theorem own_cnt (x : Int32) {t : Int32} (h : 0 < t.toInt ∧ t.toInt < 2 ^ 30) : 0 ≤ ((x &&& (2147483647 : Int32)) % (t + (1 : Int32))).toInt ∧ ((x &&& (2147483647 : Int32)) % (t + (1 : Int32))).toInt ≤ t.toInt := by
  have e1 : (x &&& 2147483647).toInt = x.toInt % 2 ^ 31 := Jvm.Kit.i32_mask x 2147483647 (k := 31) (by decide) (by decide)
  have e := own_suc (Int.le_of_lt h.1) h.2
  have q : ((x &&& 2147483647) % (t + 1)).toInt = (x &&& 2147483647).toInt % (t + 1).toInt := Jvm.Kit.i32_rem_nonneg (by omega)
  rw [q, e]
  have b0 := Int.emod_nonneg (x &&& 2147483647).toInt (show t.toInt + 1 ≠ 0 by omega)
  have b1 := Int.emod_lt_of_pos (x &&& 2147483647).toInt (show 0 < t.toInt + 1 by omega)
  omega
theorem ef_rm_max (m : MethodId) (p1 : Int32) (p2 : Int32) : entryFrame m #[(.int p1), (.int p2)] 2 = mkF m 0 #[.val (.int p1), .val (.int p2)] [] := by first | (simp [entryFrame, mkF, argsToLocals, Value.category]; done) | rfl
def K_rm_max  (Z : State) (h0 : Heap) (n0 : Nat) (p1 : Int32) (p2 : Int32) (v : Option Value) (h : Heap) (L : List Loc) : Prop := v = some (.int (own_imax p1 p2)) ∧ Fr n0 L ∧ h = h0
theorem d_jdk_29_method_65_code_0 : decode jdk_29_method_65_code 0 = .ok (.iload_n 0, 1) := by decide +kernel
theorem d_jdk_29_method_65_code_1 : decode jdk_29_method_65_code 1 = .ok (.iload_n 1, 1) := by decide +kernel
theorem d_jdk_29_method_65_code_2 : decode jdk_29_method_65_code 2 = .ok (.if_icmp .lt 7, 3) := by decide +kernel
theorem d_jdk_29_method_65_code_9 : decode jdk_29_method_65_code 9 = .ok (.iload_n 1, 1) := by decide +kernel
theorem d_jdk_29_method_65_code_10 : decode jdk_29_method_65_code 10 = .ok (.ireturn, 1) := by decide +kernel
theorem d_jdk_29_method_65_code_5 : decode jdk_29_method_65_code 5 = .ok (.iload_n 0, 1) := by decide +kernel
theorem d_jdk_29_method_65_code_6 : decode jdk_29_method_65_code 6 = .ok (.goto 4, 3) := by decide +kernel
theorem pf_java_lang_Math_max__II_I : plainFor (⟨"java/lang/Math", "max", "(II)I"⟩ : MethodName) = true := by decide +kernel
set_option maxRecDepth 65536 in
set_option maxHeartbeats 40000000 in
theorem rm_max (l : Launch) (Z : State) (a0 : Array Value) (hw : ∀ d ∈ tables_1, d.before a0 Z = true) (ws : List Jvm.Cond)  (p1 : Int32) (p2 : Int32) (h0 : Heap) (n0 : Nat) (Z0 : n0 ≤ h0.size) :
    MetFree l (⟨"java/lang/Math", "max", "(II)I"⟩ : MethodName) (head1 (Jvm.Cond.code (⟨"java/lang/Math", "max", "(II)I"⟩ : MethodName) jdk_29_method_65_code 2 (some .int) :: ws) ({ frames := 0, cells := 0, slots := 0, locals := 0 } : Room)) (fun a U => a = #[(.int p1), (.int p2)] ∧ Z.Warmed39 U.vm ∧ U.heap = h0) (fun _ _ _ _ _ => True) (fun _ U o U' => ∃ v L, o = .returned v ∧ (K_rm_max  Z h0 n0 p1 p2) v U'.heap L ∧ FrameEnd U o U' L ({ frames := 0, cells := 0, slots := 0, locals := 0 } : Room).cells ({ frames := 0, cells := 0, slots := 0, locals := 0 } : Room).slots) := by
  refine own_body pf_java_lang_Math_max__II_I ?_
  intro p e s m below meth c s₁ hx hby hml hown hnm hret hlk hZ X0 e0
  have hown : s.vm.findClass "java/lang/Math" = some m.cls := hown
  have N0 := Fr.nil n0
  rw [ef_rm_max m p1 p2]
  refine own_iloadN X0 hx (pc' := 1) rfl (hb hby d_jdk_29_method_65_code_0) rfl ?_
  refine own_iloadN X0 hx (pc' := 2) rfl (hb hby d_jdk_29_method_65_code_1) rfl ?_
  by_cases c2_1 : p1 < p2
  · refine own_icmpT X0 hx (pc' := 9) (hb hby d_jdk_29_method_65_code_2) (XT.ii_lt_t c2_1) (by decide) (by decide) ?_
    refine own_iloadN X0 hx (pc' := 10) rfl (hb hby d_jdk_29_method_65_code_9) rfl ?_
    refine own_iret X0 hx hlk hret (hb hby d_jdk_29_method_65_code_10) (by decide) (by decide) ?_
    rw [e0]
    exact ⟨by first | (simp only [own_imax, if_pos c2_1]; done) | (simp only [own_imax, if_pos c2_1]; rfl), N0, rfl⟩
  · refine own_icmpF X0 hx (pc' := 5) rfl (hb hby d_jdk_29_method_65_code_2) (XT.ii_lt_f c2_1) ?_
    refine own_iloadN X0 hx (pc' := 6) rfl (hb hby d_jdk_29_method_65_code_5) rfl ?_
    refine own_goto X0 hx (pc' := 10) (hb hby d_jdk_29_method_65_code_6) (by decide) (by decide) ?_
    refine own_iret X0 hx hlk hret (hb hby d_jdk_29_method_65_code_10) (by decide) (by decide) ?_
    rw [e0]
    exact ⟨by first | (simp only [own_imax, if_neg c2_1]; done) | (simp only [own_imax, if_neg c2_1]; rfl), N0, rfl⟩
theorem ef_rm_rec (m : MethodId) (a1 : Addr) : entryFrame m #[(.ref a1)] 1 = mkF m 0 #[.val (.ref a1)] [] := by first | (simp [entryFrame, mkF, argsToLocals, Value.category]; done) | rfl
def K_rm_rec  (Z : State) (h0 : Heap) (n0 : Nat) (a1 : Addr) (v : Option Value) (h : Heap) (L : List Loc) : Prop := v = none ∧ Fr n0 L ∧ h = h0
theorem d_jdk_30_method_1_code_0 : decode jdk_30_method_1_code 0 = .ok (.aload_n 0, 1) := by decide +kernel
theorem d_jdk_30_method_1_code_1 : decode jdk_30_method_1_code 1 = .ok (.invokespecial 1, 3) := by decide +kernel
theorem d_jdk_30_method_1_code_4 : decode jdk_30_method_1_code 4 = .ok (.return_, 1) := by decide +kernel
theorem pn_java_lang_Record : plainName "java/lang/Record" = true := by first | (simp [plainName, overriddenIn]; done) | decide +kernel
set_option maxRecDepth 65536 in
set_option maxHeartbeats 40000000 in
theorem rm_rec (l : Launch) (Z : State) (a0 : Array Value) (hw : ∀ d ∈ tables_1, d.before a0 Z = true) (ws : List Jvm.Cond)  (a1 : Addr) (h0 : Heap) (n0 : Nat) (Z0 : n0 ≤ h0.size) (I0 : Exa Z h0 a1 "com/example/rhoquery/rhoquery/Information$Theta") :
    MetFree l (⟨"java/lang/Record", "<init>", "()V"⟩ : MethodName) (head1 (Jvm.Cond.code (⟨"java/lang/Record", "<init>", "()V"⟩ : MethodName) jdk_30_method_1_code 1 none :: ws) ({ frames := 1, cells := 0, slots := 0, locals := 12 } : Room)) (fun a U => a = #[(.ref a1)] ∧ Z.Warmed39 U.vm ∧ U.heap = h0) (fun _ _ _ _ _ => True) (fun _ U o U' => ∃ v L, o = .returned v ∧ (K_rm_rec  Z h0 n0 a1) v U'.heap L ∧ FrameEnd U o U' L ({ frames := 1, cells := 0, slots := 0, locals := 12 } : Room).cells ({ frames := 1, cells := 0, slots := 0, locals := 12 } : Room).slots) := by
  refine own_body (plainFor_of_name pn_java_lang_Record) ?_
  intro p e s m below meth c s₁ hx hby hml hown hnm hret hlk hZ X0 e0
  have hown : s.vm.findClass "java/lang/Record" = some m.cls := hown
  have N0 := Fr.nil n0
  rw [ef_rm_rec m a1]
  refine own_aloadN X0 hx (pc' := 1) rfl (hb hby d_jdk_30_method_1_code_0) rfl rfl ?_
  refine own_initO X0 hx hZ hown (hw _ (List.mem_of_getElem? (i := 17) rfl)) (hw _ (List.mem_of_getElem? (i := 18) rfl)) (hw _ (List.mem_of_getElem? (i := 19) rfl)) e0 (by rw [hml]; rfl) (pc' := 4) rfl (hb hby d_jdk_30_method_1_code_1) (by decide) (W := 0) (Nat.le_of_eq rfl) (by decide) ?_
  intro T1 X1 e1
  refine own_ret X1 hx hlk hret (hb hby d_jdk_30_method_1_code_4) (by decide) (by decide) ?_
  rw [e1]
  exact ⟨rfl, N0, rfl⟩
theorem ef_rm_ctor (m : MethodId) (a1 : Addr) (p2 : Int32) (p3 : Int32) (p4 : Int32) : entryFrame m #[(.ref a1), (.int p2), (.int p3), (.int p4)] 4 = mkF m 0 #[.val (.ref a1), .val (.int p2), .val (.int p3), .val (.int p4)] [] := by first | (simp [entryFrame, mkF, argsToLocals, Value.category]; done) | rfl
def K_rm_ctor  (Z : State) (h0 : Heap) (n0 : Nat) (a1 : Addr) (p2 : Int32) (p3 : Int32) (p4 : Int32) (v : Option Value) (h : Heap) (L : List Loc) : Prop := v = none ∧ Fr n0 L ∧ Keep h0 h [a1] ∧ Exa Z h a1 "com/example/rhoquery/rhoquery/Information$Theta" ∧ Fld Z h a1 "com/example/rhoquery/rhoquery/Information$Theta" "count" "I" (.int p2) ∧ Fld Z h a1 "com/example/rhoquery/rhoquery/Information$Theta" "theta" "I" (.int p3)
theorem d_prog_14_method_1_code_0 : decode prog_14_method_1_code 0 = .ok (.aload_n 0, 1) := by decide +kernel
theorem d_prog_14_method_1_code_1 : decode prog_14_method_1_code 1 = .ok (.invokespecial 1, 3) := by decide +kernel
theorem pd___V : parseMethodDescriptor "()V" = some ⟨[], none⟩ := by decide +kernel
theorem d_prog_14_method_1_code_4 : decode prog_14_method_1_code 4 = .ok (.aload_n 0, 1) := by decide +kernel
theorem d_prog_14_method_1_code_5 : decode prog_14_method_1_code 5 = .ok (.iload_n 1, 1) := by decide +kernel
theorem d_prog_14_method_1_code_6 : decode prog_14_method_1_code 6 = .ok (.putfield 7, 3) := by decide +kernel
theorem d_prog_14_method_1_code_9 : decode prog_14_method_1_code 9 = .ok (.aload_n 0, 1) := by decide +kernel
theorem d_prog_14_method_1_code_10 : decode prog_14_method_1_code 10 = .ok (.iload_n 2, 1) := by decide +kernel
theorem d_prog_14_method_1_code_11 : decode prog_14_method_1_code 11 = .ok (.putfield 13, 3) := by decide +kernel
theorem d_prog_14_method_1_code_14 : decode prog_14_method_1_code 14 = .ok (.aload_n 0, 1) := by decide +kernel
theorem d_prog_14_method_1_code_15 : decode prog_14_method_1_code 15 = .ok (.iload_n 3, 1) := by decide +kernel
theorem d_prog_14_method_1_code_16 : decode prog_14_method_1_code 16 = .ok (.putfield 16, 3) := by decide +kernel
theorem d_prog_14_method_1_code_19 : decode prog_14_method_1_code 19 = .ok (.return_, 1) := by decide +kernel
theorem pn_com_example_rhoquery_rhoquery_Information_Theta : plainName "com/example/rhoquery/rhoquery/Information$Theta" = true := by first | (simp [plainName, overriddenIn]; done) | decide +kernel
set_option maxRecDepth 65536 in
set_option maxHeartbeats 40000000 in
theorem rm_ctor (l : Launch) (Z : State) (a0 : Array Value) (hw : ∀ d ∈ tables_1, d.before a0 Z = true) (ws : List Jvm.Cond)  (a1 : Addr) (p2 : Int32) (p3 : Int32) (p4 : Int32) (h0 : Heap) (n0 : Nat) (Z0 : n0 ≤ h0.size) (I0 : Exa Z h0 a1 "com/example/rhoquery/rhoquery/Information$Theta") (I1 : Fld Z h0 a1 "com/example/rhoquery/rhoquery/Information$Theta" "count" "I" (.int (0 : Int32))) (I2 : Fld Z h0 a1 "com/example/rhoquery/rhoquery/Information$Theta" "theta" "I" (.int (0 : Int32))) (I3 : Fld Z h0 a1 "com/example/rhoquery/rhoquery/Information$Theta" "properties" "I" (.int (0 : Int32))) (ge_a1 : n0 ≤ a1) :
    MetFree l (⟨"com/example/rhoquery/rhoquery/Information$Theta", "<init>", "(III)V"⟩ : MethodName) (head1 (Jvm.Cond.code (⟨"com/example/rhoquery/rhoquery/Information$Theta", "<init>", "(III)V"⟩ : MethodName) prog_14_method_1_code 4 none :: ws) ({ frames := 2, cells := 0, slots := 0, locals := 24 } : Room)) (fun a U => a = #[(.ref a1), (.int p2), (.int p3), (.int p4)] ∧ Z.Warmed39 U.vm ∧ U.heap = h0) (fun _ _ _ _ _ => True) (fun _ U o U' => ∃ v L, o = .returned v ∧ (K_rm_ctor  Z h0 n0 a1 p2 p3 p4) v U'.heap L ∧ FrameEnd U o U' L ({ frames := 2, cells := 0, slots := 0, locals := 24 } : Room).cells ({ frames := 2, cells := 0, slots := 0, locals := 24 } : Room).slots) := by
  refine own_body (plainFor_of_name pn_com_example_rhoquery_rhoquery_Information_Theta) ?_
  intro p e s m below meth c s₁ hx hby hml hown hnm hret hlk hZ X0 e0
  have hown : s.vm.findClass "com/example/rhoquery/rhoquery/Information$Theta" = some m.cls := hown
  have N0 := Fr.nil n0
  rw [ef_rm_ctor m a1 p2 p3 p4]
  have K0 := Keep.refl h0 [a1]
  refine own_aloadN X0 hx (pc' := 1) rfl (hb hby d_prog_14_method_1_code_0) rfl rfl ?_
  refine own_callC X0 hx hZ (y := (⟨"java/lang/Record", "<init>", "()V"⟩ : MethodName)) rfl hown (hw _ (List.mem_of_getElem? (i := 12) rfl)) (hw _ (List.mem_of_getElem? (i := 13) rfl)) (hw _ (List.mem_of_getElem? (i := 15) rfl)) (hw _ (List.mem_of_getElem? (i := 16) rfl))  (by decide) (rm_rec l Z a0 hw [] a1 h0 n0 Z0 I0) (by decide) (W := 0) (by decide) (by decide) (by decide) e0 (by rw [hml]; rfl) (argsL := []) (rest := []) rfl (lenOf pd___V rfl) rfl (Nat.le_of_eq rfl) (pc' := 4) rfl (hb hby d_prog_14_method_1_code_1) ?_
  rintro _ T1 L1 X1 ⟨rfl, N1, e1⟩
  have M1 := Fr.app N0 N1
  show own_Goes p e below T1 (mkF m 4 #[.val (.ref a1), .val (.int p2), .val (.int p3), .val (.int p4)] []) _
  refine own_aloadN X1 hx (pc' := 5) rfl (hb hby d_prog_14_method_1_code_4) rfl rfl ?_
  refine own_iloadN X1 hx (pc' := 6) rfl (hb hby d_prog_14_method_1_code_5) rfl ?_
  refine own_putF X1 hx hZ hown (host := "") (Or.inl (hw _ (List.mem_of_getElem? (i := 20) rfl))) Via.refl e1 I1 I0 (Or.inr ⟨(hw _ (List.mem_of_getElem? (i := 21) rfl)), rfl, hnm⟩) (hw _ (List.mem_of_getElem? (i := 7) rfl)) (ty := .int) (by decide) rfl rfl (pc' := 9) rfl (hb hby d_prog_14_method_1_code_6) ?_
  intro T2 h2 X2 e2 W2
  have F3 := Fld.same W2 I1
  have Siz_4 := own_sizWr W2 Z0
  have Exa_5 := Exa.wr W2 I0
  have Fld_7 := Fld.other W2 I2 (Or.inr (slot_ne (Or.inr (hw _ (List.mem_of_getElem? (i := 23) rfl))) (Or.inr (hw _ (List.mem_of_getElem? (i := 21) rfl))) (by decide) (t := .int) (t' := .int) (by decide) (by decide)))
  have Fld_8 := Fld.other W2 I3 (Or.inr (slot_ne (Or.inr (hw _ (List.mem_of_getElem? (i := 25) rfl))) (Or.inr (hw _ (List.mem_of_getElem? (i := 21) rfl))) (by decide) (t := .int) (t' := .int) (by decide) (by decide)))
  have N2 := Fr.snoc X2 M1 ge_a1
  have K2 := Keep.wr K0 W2 (Or.inl (by simp))
  refine own_aloadN X2 hx (pc' := 10) rfl (hb hby d_prog_14_method_1_code_9) rfl rfl ?_
  refine own_iloadN X2 hx (pc' := 11) rfl (hb hby d_prog_14_method_1_code_10) rfl ?_
  refine own_putF X2 hx hZ hown (host := "") (Or.inl (hw _ (List.mem_of_getElem? (i := 22) rfl))) Via.refl e2 Fld_7 Exa_5 (Or.inr ⟨(hw _ (List.mem_of_getElem? (i := 23) rfl)), rfl, hnm⟩) (hw _ (List.mem_of_getElem? (i := 7) rfl)) (ty := .int) (by decide) rfl rfl (pc' := 14) rfl (hb hby d_prog_14_method_1_code_11) ?_
  intro T9 h9 X9 e9 W9
  have F10 := Fld.same W9 Fld_7
  have Siz_11 := own_sizWr W9 Siz_4
  have Exa_12 := Exa.wr W9 Exa_5
  have Fld_14 := Fld.other W9 Fld_8 (Or.inr (slot_ne (Or.inr (hw _ (List.mem_of_getElem? (i := 25) rfl))) (Or.inr (hw _ (List.mem_of_getElem? (i := 23) rfl))) (by decide) (t := .int) (t' := .int) (by decide) (by decide)))
  have Fld_15 := Fld.other W9 F3 (Or.inr (slot_ne (Or.inr (hw _ (List.mem_of_getElem? (i := 21) rfl))) (Or.inr (hw _ (List.mem_of_getElem? (i := 23) rfl))) (by decide) (t := .int) (t' := .int) (by decide) (by decide)))
  have N9 := Fr.snoc X9 N2 ge_a1
  have K9 := Keep.wr K2 W9 (Or.inl (by simp))
  refine own_aloadN X9 hx (pc' := 15) rfl (hb hby d_prog_14_method_1_code_14) rfl rfl ?_
  refine own_iloadN X9 hx (pc' := 16) rfl (hb hby d_prog_14_method_1_code_15) rfl ?_
  refine own_putF X9 hx hZ hown (host := "") (Or.inl (hw _ (List.mem_of_getElem? (i := 24) rfl))) Via.refl e9 Fld_14 Exa_12 (Or.inr ⟨(hw _ (List.mem_of_getElem? (i := 25) rfl)), rfl, hnm⟩) (hw _ (List.mem_of_getElem? (i := 7) rfl)) (ty := .int) (by decide) rfl rfl (pc' := 19) rfl (hb hby d_prog_14_method_1_code_16) ?_
  intro T16 h16 X16 e16 W16
  have F17 := Fld.same W16 Fld_14
  have Siz_18 := own_sizWr W16 Siz_11
  have Exa_19 := Exa.wr W16 Exa_12
  have Fld_21 := Fld.other W16 Fld_15 (Or.inr (slot_ne (Or.inr (hw _ (List.mem_of_getElem? (i := 21) rfl))) (Or.inr (hw _ (List.mem_of_getElem? (i := 25) rfl))) (by decide) (t := .int) (t' := .int) (by decide) (by decide)))
  have Fld_22 := Fld.other W16 F10 (Or.inr (slot_ne (Or.inr (hw _ (List.mem_of_getElem? (i := 23) rfl))) (Or.inr (hw _ (List.mem_of_getElem? (i := 25) rfl))) (by decide) (t := .int) (t' := .int) (by decide) (by decide)))
  have N16 := Fr.snoc X16 N9 ge_a1
  have K16 := Keep.wr K9 W16 (Or.inl (by simp))
  refine own_ret X16 hx hlk hret (hb hby d_prog_14_method_1_code_19) (by decide) (by decide) ?_
  rw [e16]
  exact ⟨rfl, N16, K16, Exa_19, Fld_21, Fld_22⟩
theorem ef_rm_spec (m : MethodId) (a1 : Addr) : entryFrame m #[(.ref a1)] 1 = mkF m 0 #[.val (.ref a1)] [] := by first | (simp [entryFrame, mkF, argsToLocals, Value.category]; done) | rfl
def K_rm_spec (n1 : Int32) (n2 : Int32) (Z : State) (h0 : Heap) (n0 : Nat) (a1 : Addr) (v : Option Value) (h : Heap) (L : List Loc) : Prop := v = some (.double (FP.ddiv (FP.i2d n1) (FP.i2d n2))) ∧ Fr n0 L ∧ h = h0
theorem d_prog_14_method_2_code_0 : decode prog_14_method_2_code 0 = .ok (.aload_n 0, 1) := by decide +kernel
theorem d_prog_14_method_2_code_1 : decode prog_14_method_2_code 1 = .ok (.getfield 7, 3) := by decide +kernel
theorem d_prog_14_method_2_code_4 : decode prog_14_method_2_code 4 = .ok (.i2d, 1) := by decide +kernel
theorem d_prog_14_method_2_code_5 : decode prog_14_method_2_code 5 = .ok (.aload_n 0, 1) := by decide +kernel
theorem d_prog_14_method_2_code_6 : decode prog_14_method_2_code 6 = .ok (.getfield 13, 3) := by decide +kernel
theorem d_prog_14_method_2_code_9 : decode prog_14_method_2_code 9 = .ok (.i2d, 1) := by decide +kernel
theorem d_prog_14_method_2_code_10 : decode prog_14_method_2_code 10 = .ok (.ddiv, 1) := by decide +kernel
theorem d_prog_14_method_2_code_11 : decode prog_14_method_2_code 11 = .ok (.dreturn, 1) := by decide +kernel
set_option maxRecDepth 65536 in
set_option maxHeartbeats 40000000 in
theorem rm_spec (l : Launch) (Z : State) (a0 : Array Value) (hw : ∀ d ∈ tables_1, d.before a0 Z = true) (ws : List Jvm.Cond) (n1 : Int32) (n2 : Int32) (a1 : Addr) (h0 : Heap) (n0 : Nat) (Z0 : n0 ≤ h0.size) (I0 : Exa Z h0 a1 "com/example/rhoquery/rhoquery/Information$Theta") (I1 : Fld Z h0 a1 "com/example/rhoquery/rhoquery/Information$Theta" "count" "I" (.int n1)) (I2 : Fld Z h0 a1 "com/example/rhoquery/rhoquery/Information$Theta" "theta" "I" (.int n2)) (hp1 : 0 ≤ n1.toInt) (hp2 : 0 < n2.toInt) :
    MetFree l (⟨"com/example/rhoquery/rhoquery/Information$Theta", "specificity", "()D"⟩ : MethodName) (head1 (Jvm.Cond.code (⟨"com/example/rhoquery/rhoquery/Information$Theta", "specificity", "()D"⟩ : MethodName) prog_14_method_2_code 1 (some .double) :: ws) ({ frames := 0, cells := 0, slots := 0, locals := 0 } : Room)) (fun a U => a = #[(.ref a1)] ∧ Z.Warmed39 U.vm ∧ U.heap = h0) (fun _ _ _ _ _ => True) (fun _ U o U' => ∃ v L, o = .returned v ∧ (K_rm_spec n1 n2 Z h0 n0 a1) v U'.heap L ∧ FrameEnd U o U' L ({ frames := 0, cells := 0, slots := 0, locals := 0 } : Room).cells ({ frames := 0, cells := 0, slots := 0, locals := 0 } : Room).slots) := by
  refine own_body (plainFor_of_name pn_com_example_rhoquery_rhoquery_Information_Theta) ?_
  intro p e s m below meth c s₁ hx hby hml hown hnm hret hlk hZ X0 e0
  have hown : s.vm.findClass "com/example/rhoquery/rhoquery/Information$Theta" = some m.cls := hown
  have N0 := Fr.nil n0
  rw [ef_rm_spec m a1]
  refine own_aloadN X0 hx (pc' := 1) rfl (hb hby d_prog_14_method_2_code_0) rfl rfl ?_
  refine own_getF X0 hx hZ hown (host := "") (Or.inl (hw _ (List.mem_of_getElem? (i := 20) rfl))) Via.refl e0 I1 (pc' := 4) rfl (hb hby d_prog_14_method_2_code_1) ?_
  intro T1 X1 e1
  refine own_i2d X1 hx (v := (FP.i2d n1)) (pc' := 5) rfl (hb hby d_prog_14_method_2_code_4) rfl ?_
  refine own_aloadN X1 hx (pc' := 6) rfl (hb hby d_prog_14_method_2_code_5) rfl rfl ?_
  refine own_getF X1 hx hZ hown (host := "") (Or.inl (hw _ (List.mem_of_getElem? (i := 22) rfl))) Via.refl e1 I2 (pc' := 9) rfl (hb hby d_prog_14_method_2_code_6) ?_
  intro T2 X2 e2
  refine own_i2d X2 hx (v := (FP.i2d n2)) (pc' := 10) rfl (hb hby d_prog_14_method_2_code_9) rfl ?_
  refine own_ddiv X2 hx (v := (FP.ddiv (FP.i2d n1) (FP.i2d n2))) (pc' := 11) rfl (hb hby d_prog_14_method_2_code_10) (own_nnZ (own_Zq hp1 hp2)) rfl ?_
  refine own_dret X2 hx hlk hret (hb hby d_prog_14_method_2_code_11) (by decide) (by decide) ?_
  rw [e2]
  exact ⟨rfl, N0, rfl⟩
theorem ef_rm_law (m : MethodId) (p1 : Int32) (p2 : Int32) (p3 : Int32) (p4 : Int32) : entryFrame m #[(.int p1), (.int p2), (.int p3), (.int p4)] maxLocals = mkF m 0 #[.val (.int p1), .val (.int p2), .val (.int p3), .val (.int p4), .unset, .unset, .unset, .unset, .unset, .unset, .unset, .unset, .unset, .unset, .unset, .unset, .unset, .unset, .unset, .unset, .unset, .unset, .unset, .unset] [] := by first | (simp [entryFrame, mkF, argsToLocals, Value.category, maxLocals]; done) | rfl
def K_rm_law  (Z : State) (h0 : Heap) (n0 : Nat) (p1 : Int32) (p2 : Int32) (p3 : Int32) (p4 : Int32) (v : Option Value) (h : Heap) (L : List Loc) : Prop := v = some (.int 1) ∧ Fr n0 L
theorem pd__II_I : parseMethodDescriptor "(II)I" = some ⟨[.int, .int], some .int⟩ := by decide +kernel
theorem pd__III_V : parseMethodDescriptor "(III)V" = some ⟨[.int, .int, .int], none⟩ := by decide +kernel
theorem pd___D : parseMethodDescriptor "()D" = some ⟨[], some .double⟩ := by decide +kernel
theorem pn_com_example_rhoquery_rhoquery_ThetaSpecificityPinLaw : plainName "com/example/rhoquery/rhoquery/ThetaSpecificityPinLaw" = true := by first | (simp [plainName, overriddenIn]; done) | decide +kernel
set_option maxRecDepth 65536 in
set_option maxHeartbeats 40000000 in
theorem rm_law (l : Launch) (Z : State) (a0 : Array Value) (hw : ∀ d ∈ tables_1, d.before a0 Z = true) (ws : List Jvm.Cond)  (p1 : Int32) (p2 : Int32) (p3 : Int32) (p4 : Int32) (h0 : Heap) (n0 : Nat) (Z0 : n0 ≤ h0.size) :
    MetFree l x (head1 (Jvm.Cond.code x code maxLocals ret :: ws) room_1) (fun a U => a = #[(.int p1), (.int p2), (.int p3), (.int p4)] ∧ Z.Warmed39 U.vm ∧ U.heap = h0) (fun _ _ _ _ _ => True) (fun _ U o U' => ∃ v L, o = .returned v ∧ (K_rm_law  Z h0 n0 p1 p2 p3 p4) v U'.heap L ∧ FrameEnd U o U' L room_1.cells room_1.slots) := by
  refine own_body (plainFor_of_name pn_com_example_rhoquery_rhoquery_ThetaSpecificityPinLaw) ?_
  intro p e s m below meth c s₁ hx hby hml hown hnm hret hlk hZ X0 e0
  have hown : s.vm.findClass "com/example/rhoquery/rhoquery/ThetaSpecificityPinLaw" = some m.cls := hown
  have N0 := Fr.nil n0
  rw [ef_rm_law m p1 p2 p3 p4]
  refine own_iconst X0 hx (v := (1 : Int32)) (pc' := 1) rfl (hb hby at_0) rfl ?_
  refine own_iloadN X0 hx (pc' := 2) rfl (hb hby at_1) rfl ?_
  refine own_ldc X0 hx hZ hown (hw _ (List.mem_of_getElem? (i := 0) rfl)) (pc' := 4) rfl (hb hby at_2) ?_
  refine own_iand X0 hx (v := (p1 &&& (1073741823 : Int32))) (pc' := 5) rfl (hb hby at_4) rfl ?_
  refine own_callS X0 hx hZ (y := (⟨"java/lang/Math", "max", "(II)I"⟩ : MethodName)) hown (hw _ (List.mem_of_getElem? (i := 1) rfl)) (hw _ (List.mem_of_getElem? (i := 2) rfl)) (hw _ (List.mem_of_getElem? (i := 3) rfl)) (hw _ (List.mem_of_getElem? (i := 4) rfl))  (by decide) (rm_max l Z a0 hw [] (1 : Int32) (p1 &&& (1073741823 : Int32)) h0 n0 Z0) (by decide) (W := 0) (by decide) (by decide) (by decide) e0 (by rw [hml]; rfl) (argsL := [(.int (1 : Int32)), (.int (p1 &&& (1073741823 : Int32)))]) (rest := []) rfl (lenOf pd__II_I rfl) rfl (Nat.le_of_eq rfl) (pc' := 8) rfl (hb hby at_5) ?_
  rintro _ T1 L1 X1 ⟨rfl, N1, e1⟩
  have M1 := Fr.app N0 N1
  show own_Goes p e below T1 (mkF m 8 #[.val (.int p1), .val (.int p2), .val (.int p3), .val (.int p4), .unset, .unset, .unset, .unset, .unset, .unset, .unset, .unset, .unset, .unset, .unset, .unset, .unset, .unset, .unset, .unset, .unset, .unset, .unset, .unset] [(.int (own_imax (1 : Int32) (p1 &&& (1073741823 : Int32))))]) _
  have hth := own_th p1
  generalize (own_imax (1 : Int32) (p1 &&& (1073741823 : Int32))) = th at hth ⊢
  refine own_istore X1 hx (Ls' := #[.val (.int p1), .val (.int p2), .val (.int p3), .val (.int p4), .val (.int th), .unset, .unset, .unset, .unset, .unset, .unset, .unset, .unset, .unset, .unset, .unset, .unset, .unset, .unset, .unset, .unset, .unset, .unset, .unset]) (pc' := 10) rfl (hb hby at_8) rfl ?_
  refine own_iloadN X1 hx (pc' := 11) rfl (hb hby at_10) rfl ?_
  refine own_ldc X1 hx hZ hown (hw _ (List.mem_of_getElem? (i := 5) rfl)) (pc' := 13) rfl (hb hby at_11) ?_
  refine own_iand X1 hx (v := (p2 &&& (2147483647 : Int32))) (pc' := 14) rfl (hb hby at_13) rfl ?_
  refine own_iload X1 hx (pc' := 16) rfl (hb hby at_14) rfl ?_
  refine own_iconst X1 hx (v := (1 : Int32)) (pc' := 17) rfl (hb hby at_16) rfl ?_
  refine own_iadd X1 hx (v := (th + (1 : Int32))) (pc' := 18) rfl (hb hby at_17) rfl ?_
  refine own_irem X1 hx (v := ((p2 &&& (2147483647 : Int32)) % (th + (1 : Int32)))) (pc' := 19) rfl (hb hby at_18) (own_tnz hth) rfl ?_
  have hcn := own_cnt p2 hth
  generalize ((p2 &&& (2147483647 : Int32)) % (th + (1 : Int32))) = cn at hcn ⊢
  refine own_istore X1 hx (Ls' := #[.val (.int p1), .val (.int p2), .val (.int p3), .val (.int p4), .val (.int th), .val (.int cn), .unset, .unset, .unset, .unset, .unset, .unset, .unset, .unset, .unset, .unset, .unset, .unset, .unset, .unset, .unset, .unset, .unset, .unset]) (pc' := 21) rfl (hb hby at_19) rfl ?_
  refine own_iloadN X1 hx (pc' := 22) rfl (hb hby at_21) rfl ?_
  refine own_ldc X1 hx hZ hown (hw _ (List.mem_of_getElem? (i := 5) rfl)) (pc' := 24) rfl (hb hby at_22) ?_
  refine own_iand X1 hx (v := (p3 &&& (2147483647 : Int32))) (pc' := 25) rfl (hb hby at_24) rfl ?_
  refine own_iload X1 hx (pc' := 27) rfl (hb hby at_25) rfl ?_
  refine own_iconst X1 hx (v := (1 : Int32)) (pc' := 28) rfl (hb hby at_27) rfl ?_
  refine own_iadd X1 hx (v := (th + (1 : Int32))) (pc' := 29) rfl (hb hby at_28) rfl ?_
  refine own_irem X1 hx (v := ((p3 &&& (2147483647 : Int32)) % (th + (1 : Int32)))) (pc' := 30) rfl (hb hby at_29) (own_tnz hth) rfl ?_
  have hcm := own_cnt p3 hth
  generalize ((p3 &&& (2147483647 : Int32)) % (th + (1 : Int32))) = cm at hcm ⊢
  refine own_istore X1 hx (Ls' := #[.val (.int p1), .val (.int p2), .val (.int p3), .val (.int p4), .val (.int th), .val (.int cn), .val (.int cm), .unset, .unset, .unset, .unset, .unset, .unset, .unset, .unset, .unset, .unset, .unset, .unset, .unset, .unset, .unset, .unset, .unset]) (pc' := 32) rfl (hb hby at_30) rfl ?_
  refine own_new X1 hx hZ hown (hw _ (List.mem_of_getElem? (i := 6) rfl)) (hw _ (List.mem_of_getElem? (i := 7) rfl)) (hw _ (List.mem_of_getElem? (i := 8) rfl)) e1 (pc' := 35) rfl (hb hby at_32) (by decide) (by decide) ?_
  intro T2 h2 X2 e2 E2 A2 D2
  obtain ⟨o2, g2⟩ : ∃ z, z = h0.size := ⟨_, rfl⟩
  rw [← g2] at A2 D2 ⊢
  have ge2 : n0 ≤ o2 := g2 ▸ Z0
  have Siz_3 := Nat.le_trans Z0 E2.1
  have F4 : Fld Z h2 o2 "com/example/rhoquery/rhoquery/Information$Theta" "count" "I" (.int (0 : Int32)) := D2 (Or.inr (hw _ (List.mem_of_getElem? (i := 21) rfl))) (ty := .int) (by decide)
  have F5 : Fld Z h2 o2 "com/example/rhoquery/rhoquery/Information$Theta" "theta" "I" (.int (0 : Int32)) := D2 (Or.inr (hw _ (List.mem_of_getElem? (i := 23) rfl))) (ty := .int) (by decide)
  have F6 : Fld Z h2 o2 "com/example/rhoquery/rhoquery/Information$Theta" "properties" "I" (.int (0 : Int32)) := D2 (Or.inr (hw _ (List.mem_of_getElem? (i := 25) rfl))) (ty := .int) (by decide)
  refine own_dup X2 hx (pc' := 36) rfl (hb hby at_35) rfl ?_
  refine own_iload X2 hx (pc' := 38) rfl (hb hby at_36) rfl ?_
  refine own_iload X2 hx (pc' := 40) rfl (hb hby at_38) rfl ?_
  refine own_iloadN X2 hx (pc' := 41) rfl (hb hby at_40) rfl ?_
  refine own_callC X2 hx hZ (y := (⟨"com/example/rhoquery/rhoquery/Information$Theta", "<init>", "(III)V"⟩ : MethodName)) rfl hown (hw _ (List.mem_of_getElem? (i := 9) rfl)) (hw _ (List.mem_of_getElem? (i := 10) rfl)) (hw _ (List.mem_of_getElem? (i := 8) rfl)) (hw _ (List.mem_of_getElem? (i := 11) rfl))  (by decide) (rm_ctor l Z a0 hw [] o2 cn th p4 h2 n0 Siz_3 A2 F4 F5 F6 ge2) (by decide) (W := 1) (by decide) (by decide) (by decide) e2 (by rw [hml]; rfl) (argsL := [(.int cn), (.int th), (.int p4)]) (rest := [(.ref o2)]) rfl (lenOf pd__III_V rfl) rfl (Nat.le_of_eq rfl) (pc' := 44) rfl (hb hby at_41) ?_
  rintro _ T7 L7 X7 ⟨rfl, N7, K7, G7_0, G7_1, G7_2⟩
  have M7 := Fr.app M1 N7
  obtain ⟨h7, e7⟩ : ∃ z, T7.heap = z := ⟨_, rfl⟩
  rw [e7] at K7 G7_0 G7_1 G7_2
  have Siz_8 := Nat.le_trans Siz_3 K7.1
  have Exa_9 := A2.keep K7
  show own_Goes p e below T7 (mkF m 44 #[.val (.int p1), .val (.int p2), .val (.int p3), .val (.int p4), .val (.int th), .val (.int cn), .val (.int cm), .unset, .unset, .unset, .unset, .unset, .unset, .unset, .unset, .unset, .unset, .unset, .unset, .unset, .unset, .unset, .unset, .unset] [(.ref o2)]) _
  refine own_callV X7 hx hZ (y := (⟨"com/example/rhoquery/rhoquery/Information$Theta", "specificity", "()D"⟩ : MethodName)) hown (hw _ (List.mem_of_getElem? (i := 26) rfl)) (hw _ (List.mem_of_getElem? (i := 27) rfl)) (hw _ (List.mem_of_getElem? (i := 29) rfl)) (hw _ (List.mem_of_getElem? (i := 28) rfl)) (hw _ (List.mem_of_getElem? (i := 8) rfl)) (hw _ (List.mem_of_getElem? (i := 30) rfl)) Exa_9  (by decide) (rm_spec l Z a0 hw [] cn th o2 h7 n0 Siz_8 Exa_9 G7_1 G7_2 hcn.1 hth.1) (by decide) (W := 0) (by decide) (by decide) (by decide) e7 (by rw [hml]; rfl) (argsL := []) (rest := []) rfl (lenOf pd___D rfl) rfl (Nat.le_of_eq rfl) (pc' := 47) rfl (hb hby at_44) ?_
  rintro _ T13 L13 X13 ⟨rfl, N13, e13⟩
  have M13 := Fr.app M7 N13
  show own_Goes p e below T13 (mkF m 47 #[.val (.int p1), .val (.int p2), .val (.int p3), .val (.int p4), .val (.int th), .val (.int cn), .val (.int cm), .unset, .unset, .unset, .unset, .unset, .unset, .unset, .unset, .unset, .unset, .unset, .unset, .unset, .unset, .unset, .unset, .unset] [(.double (FP.ddiv (FP.i2d cn) (FP.i2d th)))]) _
  refine own_dstore X13 hx (Ls' := #[.val (.int p1), .val (.int p2), .val (.int p3), .val (.int p4), .val (.int th), .val (.int cn), .val (.int cm), .val (.double (FP.ddiv (FP.i2d cn) (FP.i2d th))), .second, .unset, .unset, .unset, .unset, .unset, .unset, .unset, .unset, .unset, .unset, .unset, .unset, .unset, .unset, .unset]) (pc' := 49) rfl (hb hby at_47) rfl ?_
  refine own_new X13 hx hZ hown (hw _ (List.mem_of_getElem? (i := 6) rfl)) (hw _ (List.mem_of_getElem? (i := 7) rfl)) (hw _ (List.mem_of_getElem? (i := 8) rfl)) e13 (pc' := 52) rfl (hb hby at_49) (by decide) (by decide) ?_
  intro T14 h14 X14 e14 E14 A14 D14
  obtain ⟨o14, g14⟩ : ∃ z, z = h7.size := ⟨_, rfl⟩
  rw [← g14] at A14 D14 ⊢
  have ne14_o2 : o2 ≠ o14 := Nat.ne_of_lt (g14 ▸ Exa_9.lt)
  have ge14 : n0 ≤ o14 := g14 ▸ Siz_8
  have Siz_15 := Nat.le_trans Siz_8 E14.1
  have Exa_16 := Exa.ext E14 Exa_9
  have Exa_17 := Exa.ext E14 G7_0
  have Fld_18 := Fld.ext E14 G7_1
  have Fld_19 := Fld.ext E14 G7_2
  have F20 : Fld Z h14 o14 "com/example/rhoquery/rhoquery/Information$Theta" "count" "I" (.int (0 : Int32)) := D14 (Or.inr (hw _ (List.mem_of_getElem? (i := 21) rfl))) (ty := .int) (by decide)
  have F21 : Fld Z h14 o14 "com/example/rhoquery/rhoquery/Information$Theta" "theta" "I" (.int (0 : Int32)) := D14 (Or.inr (hw _ (List.mem_of_getElem? (i := 23) rfl))) (ty := .int) (by decide)
  have F22 : Fld Z h14 o14 "com/example/rhoquery/rhoquery/Information$Theta" "properties" "I" (.int (0 : Int32)) := D14 (Or.inr (hw _ (List.mem_of_getElem? (i := 25) rfl))) (ty := .int) (by decide)
  refine own_dup X14 hx (pc' := 53) rfl (hb hby at_52) rfl ?_
  refine own_iload X14 hx (pc' := 55) rfl (hb hby at_53) rfl ?_
  refine own_iload X14 hx (pc' := 57) rfl (hb hby at_55) rfl ?_
  refine own_iloadN X14 hx (pc' := 58) rfl (hb hby at_57) rfl ?_
  refine own_callC X14 hx hZ (y := (⟨"com/example/rhoquery/rhoquery/Information$Theta", "<init>", "(III)V"⟩ : MethodName)) rfl hown (hw _ (List.mem_of_getElem? (i := 9) rfl)) (hw _ (List.mem_of_getElem? (i := 10) rfl)) (hw _ (List.mem_of_getElem? (i := 8) rfl)) (hw _ (List.mem_of_getElem? (i := 11) rfl))  (by decide) (rm_ctor l Z a0 hw [] o14 cm th p4 h14 n0 Siz_15 A14 F20 F21 F22 ge14) (by decide) (W := 1) (by decide) (by decide) (by decide) e14 (by rw [hml]; rfl) (argsL := [(.int cm), (.int th), (.int p4)]) (rest := [(.ref o14)]) rfl (lenOf pd__III_V rfl) rfl (Nat.le_of_eq rfl) (pc' := 61) rfl (hb hby at_58) ?_
  rintro _ T23 L23 X23 ⟨rfl, N23, K23, G23_0, G23_1, G23_2⟩
  have M23 := Fr.app M13 N23
  obtain ⟨h23, e23⟩ : ∃ z, T23.heap = z := ⟨_, rfl⟩
  rw [e23] at K23 G23_0 G23_1 G23_2
  have Siz_24 := Nat.le_trans Siz_15 K23.1
  have Exa_25 := Exa_16.keep K23
  have Exa_26 := Exa_17.keep K23
  have Fld_27 := Fld_18.keep K23 (ninS ne14_o2 nin0)
  have Fld_28 := Fld_19.keep K23 (ninS ne14_o2 nin0)
  have Exa_29 := A14.keep K23
  show own_Goes p e below T23 (mkF m 61 #[.val (.int p1), .val (.int p2), .val (.int p3), .val (.int p4), .val (.int th), .val (.int cn), .val (.int cm), .val (.double (FP.ddiv (FP.i2d cn) (FP.i2d th))), .second, .unset, .unset, .unset, .unset, .unset, .unset, .unset, .unset, .unset, .unset, .unset, .unset, .unset, .unset, .unset] [(.ref o14)]) _
  refine own_callV X23 hx hZ (y := (⟨"com/example/rhoquery/rhoquery/Information$Theta", "specificity", "()D"⟩ : MethodName)) hown (hw _ (List.mem_of_getElem? (i := 26) rfl)) (hw _ (List.mem_of_getElem? (i := 27) rfl)) (hw _ (List.mem_of_getElem? (i := 29) rfl)) (hw _ (List.mem_of_getElem? (i := 28) rfl)) (hw _ (List.mem_of_getElem? (i := 8) rfl)) (hw _ (List.mem_of_getElem? (i := 30) rfl)) Exa_29  (by decide) (rm_spec l Z a0 hw [] cm th o14 h23 n0 Siz_24 Exa_29 G23_1 G23_2 hcm.1 hth.1) (by decide) (W := 0) (by decide) (by decide) (by decide) e23 (by rw [hml]; rfl) (argsL := []) (rest := []) rfl (lenOf pd___D rfl) rfl (Nat.le_of_eq rfl) (pc' := 64) rfl (hb hby at_61) ?_
  rintro _ T33 L33 X33 ⟨rfl, N33, e33⟩
  have M33 := Fr.app M23 N33
  show own_Goes p e below T33 (mkF m 64 #[.val (.int p1), .val (.int p2), .val (.int p3), .val (.int p4), .val (.int th), .val (.int cn), .val (.int cm), .val (.double (FP.ddiv (FP.i2d cn) (FP.i2d th))), .second, .unset, .unset, .unset, .unset, .unset, .unset, .unset, .unset, .unset, .unset, .unset, .unset, .unset, .unset, .unset] [(.double (FP.ddiv (FP.i2d cm) (FP.i2d th)))]) _
  refine own_dstore X33 hx (Ls' := #[.val (.int p1), .val (.int p2), .val (.int p3), .val (.int p4), .val (.int th), .val (.int cn), .val (.int cm), .val (.double (FP.ddiv (FP.i2d cn) (FP.i2d th))), .second, .val (.double (FP.ddiv (FP.i2d cm) (FP.i2d th))), .second, .unset, .unset, .unset, .unset, .unset, .unset, .unset, .unset, .unset, .unset, .unset, .unset, .unset]) (pc' := 66) rfl (hb hby at_64) rfl ?_
  refine own_new X33 hx hZ hown (hw _ (List.mem_of_getElem? (i := 6) rfl)) (hw _ (List.mem_of_getElem? (i := 7) rfl)) (hw _ (List.mem_of_getElem? (i := 8) rfl)) e33 (pc' := 69) rfl (hb hby at_66) (by decide) (by decide) ?_
  intro T34 h34 X34 e34 E34 A34 D34
  obtain ⟨o34, g34⟩ : ∃ z, z = h23.size := ⟨_, rfl⟩
  rw [← g34] at A34 D34 ⊢
  have ne34_o2 : o2 ≠ o34 := Nat.ne_of_lt (g34 ▸ Exa_25.lt)
  have ne34_o14 : o14 ≠ o34 := Nat.ne_of_lt (g34 ▸ Exa_29.lt)
  have ge34 : n0 ≤ o34 := g34 ▸ Siz_24
  have Siz_35 := Nat.le_trans Siz_24 E34.1
  have Exa_36 := Exa.ext E34 Exa_25
  have Exa_37 := Exa.ext E34 Exa_26
  have Fld_38 := Fld.ext E34 Fld_27
  have Fld_39 := Fld.ext E34 Fld_28
  have Exa_40 := Exa.ext E34 Exa_29
  have Exa_41 := Exa.ext E34 G23_0
  have Fld_42 := Fld.ext E34 G23_1
  have Fld_43 := Fld.ext E34 G23_2
  have F44 : Fld Z h34 o34 "com/example/rhoquery/rhoquery/Information$Theta" "count" "I" (.int (0 : Int32)) := D34 (Or.inr (hw _ (List.mem_of_getElem? (i := 21) rfl))) (ty := .int) (by decide)
  have F45 : Fld Z h34 o34 "com/example/rhoquery/rhoquery/Information$Theta" "theta" "I" (.int (0 : Int32)) := D34 (Or.inr (hw _ (List.mem_of_getElem? (i := 23) rfl))) (ty := .int) (by decide)
  have F46 : Fld Z h34 o34 "com/example/rhoquery/rhoquery/Information$Theta" "properties" "I" (.int (0 : Int32)) := D34 (Or.inr (hw _ (List.mem_of_getElem? (i := 25) rfl))) (ty := .int) (by decide)
  refine own_dup X34 hx (pc' := 70) rfl (hb hby at_69) rfl ?_
  refine own_iconst X34 hx (v := (2 : Int32)) (pc' := 71) rfl (hb hby at_70) rfl ?_
  refine own_iload X34 hx (pc' := 73) rfl (hb hby at_71) rfl ?_
  refine own_imul X34 hx (v := ((2 : Int32) * cn)) (pc' := 74) rfl (hb hby at_73) rfl ?_
  refine own_iconst X34 hx (v := (2 : Int32)) (pc' := 75) rfl (hb hby at_74) rfl ?_
  refine own_iload X34 hx (pc' := 77) rfl (hb hby at_75) rfl ?_
  refine own_imul X34 hx (v := ((2 : Int32) * th)) (pc' := 78) rfl (hb hby at_77) rfl ?_
  refine own_iloadN X34 hx (pc' := 79) rfl (hb hby at_78) rfl ?_
  refine own_callC X34 hx hZ (y := (⟨"com/example/rhoquery/rhoquery/Information$Theta", "<init>", "(III)V"⟩ : MethodName)) rfl hown (hw _ (List.mem_of_getElem? (i := 9) rfl)) (hw _ (List.mem_of_getElem? (i := 10) rfl)) (hw _ (List.mem_of_getElem? (i := 8) rfl)) (hw _ (List.mem_of_getElem? (i := 11) rfl))  (by decide) (rm_ctor l Z a0 hw [] o34 ((2 : Int32) * cn) ((2 : Int32) * th) p4 h34 n0 Siz_35 A34 F44 F45 F46 ge34) (by decide) (W := 1) (by decide) (by decide) (by decide) e34 (by rw [hml]; rfl) (argsL := [(.int ((2 : Int32) * cn)), (.int ((2 : Int32) * th)), (.int p4)]) (rest := [(.ref o34)]) rfl (lenOf pd__III_V rfl) rfl (Nat.le_of_eq rfl) (pc' := 82) rfl (hb hby at_79) ?_
  rintro _ T47 L47 X47 ⟨rfl, N47, K47, G47_0, G47_1, G47_2⟩
  have M47 := Fr.app M33 N47
  obtain ⟨h47, e47⟩ : ∃ z, T47.heap = z := ⟨_, rfl⟩
  rw [e47] at K47 G47_0 G47_1 G47_2
  have Siz_48 := Nat.le_trans Siz_35 K47.1
  have Exa_49 := Exa_36.keep K47
  have Exa_50 := Exa_37.keep K47
  have Fld_51 := Fld_38.keep K47 (ninS ne34_o2 nin0)
  have Fld_52 := Fld_39.keep K47 (ninS ne34_o2 nin0)
  have Exa_53 := Exa_40.keep K47
  have Exa_54 := Exa_41.keep K47
  have Fld_55 := Fld_42.keep K47 (ninS ne34_o14 nin0)
  have Fld_56 := Fld_43.keep K47 (ninS ne34_o14 nin0)
  have Exa_57 := A34.keep K47
  show own_Goes p e below T47 (mkF m 82 #[.val (.int p1), .val (.int p2), .val (.int p3), .val (.int p4), .val (.int th), .val (.int cn), .val (.int cm), .val (.double (FP.ddiv (FP.i2d cn) (FP.i2d th))), .second, .val (.double (FP.ddiv (FP.i2d cm) (FP.i2d th))), .second, .unset, .unset, .unset, .unset, .unset, .unset, .unset, .unset, .unset, .unset, .unset, .unset, .unset] [(.ref o34)]) _
  refine own_callV X47 hx hZ (y := (⟨"com/example/rhoquery/rhoquery/Information$Theta", "specificity", "()D"⟩ : MethodName)) hown (hw _ (List.mem_of_getElem? (i := 26) rfl)) (hw _ (List.mem_of_getElem? (i := 27) rfl)) (hw _ (List.mem_of_getElem? (i := 29) rfl)) (hw _ (List.mem_of_getElem? (i := 28) rfl)) (hw _ (List.mem_of_getElem? (i := 8) rfl)) (hw _ (List.mem_of_getElem? (i := 30) rfl)) Exa_57  (by decide) (rm_spec l Z a0 hw [] ((2 : Int32) * cn) ((2 : Int32) * th) o34 h47 n0 Siz_48 Exa_57 G47_1 G47_2 (by rw [own_tw hcn.1 (Int.lt_of_le_of_lt hcn.2 hth.2)]; omega) (by rw [own_tw (Int.le_of_lt hth.1) hth.2]; omega)) (by decide) (W := 0) (by decide) (by decide) (by decide) e47 (by rw [hml]; rfl) (argsL := []) (rest := []) rfl (lenOf pd___D rfl) rfl (Nat.le_of_eq rfl) (pc' := 85) rfl (hb hby at_82) ?_
  rintro _ T61 L61 X61 ⟨rfl, N61, e61⟩
  have M61 := Fr.app M47 N61
  show own_Goes p e below T61 (mkF m 85 #[.val (.int p1), .val (.int p2), .val (.int p3), .val (.int p4), .val (.int th), .val (.int cn), .val (.int cm), .val (.double (FP.ddiv (FP.i2d cn) (FP.i2d th))), .second, .val (.double (FP.ddiv (FP.i2d cm) (FP.i2d th))), .second, .unset, .unset, .unset, .unset, .unset, .unset, .unset, .unset, .unset, .unset, .unset, .unset, .unset] [(.double (FP.ddiv (FP.i2d ((2 : Int32) * cn)) (FP.i2d ((2 : Int32) * th))))]) _
  refine own_dstore X61 hx (Ls' := #[.val (.int p1), .val (.int p2), .val (.int p3), .val (.int p4), .val (.int th), .val (.int cn), .val (.int cm), .val (.double (FP.ddiv (FP.i2d cn) (FP.i2d th))), .second, .val (.double (FP.ddiv (FP.i2d cm) (FP.i2d th))), .second, .val (.double (FP.ddiv (FP.i2d ((2 : Int32) * cn)) (FP.i2d ((2 : Int32) * th)))), .second, .unset, .unset, .unset, .unset, .unset, .unset, .unset, .unset, .unset, .unset, .unset]) (pc' := 87) rfl (hb hby at_85) rfl ?_
  refine own_new X61 hx hZ hown (hw _ (List.mem_of_getElem? (i := 6) rfl)) (hw _ (List.mem_of_getElem? (i := 7) rfl)) (hw _ (List.mem_of_getElem? (i := 8) rfl)) e61 (pc' := 90) rfl (hb hby at_87) (by decide) (by decide) ?_
  intro T62 h62 X62 e62 E62 A62 D62
  obtain ⟨o62, g62⟩ : ∃ z, z = h47.size := ⟨_, rfl⟩
  rw [← g62] at A62 D62 ⊢
  have ne62_o2 : o2 ≠ o62 := Nat.ne_of_lt (g62 ▸ Exa_49.lt)
  have ne62_o14 : o14 ≠ o62 := Nat.ne_of_lt (g62 ▸ Exa_53.lt)
  have ne62_o34 : o34 ≠ o62 := Nat.ne_of_lt (g62 ▸ Exa_57.lt)
  have ge62 : n0 ≤ o62 := g62 ▸ Siz_48
  have Siz_63 := Nat.le_trans Siz_48 E62.1
  have Exa_64 := Exa.ext E62 Exa_49
  have Exa_65 := Exa.ext E62 Exa_50
  have Fld_66 := Fld.ext E62 Fld_51
  have Fld_67 := Fld.ext E62 Fld_52
  have Exa_68 := Exa.ext E62 Exa_53
  have Exa_69 := Exa.ext E62 Exa_54
  have Fld_70 := Fld.ext E62 Fld_55
  have Fld_71 := Fld.ext E62 Fld_56
  have Exa_72 := Exa.ext E62 Exa_57
  have Exa_73 := Exa.ext E62 G47_0
  have Fld_74 := Fld.ext E62 G47_1
  have Fld_75 := Fld.ext E62 G47_2
  have F76 : Fld Z h62 o62 "com/example/rhoquery/rhoquery/Information$Theta" "count" "I" (.int (0 : Int32)) := D62 (Or.inr (hw _ (List.mem_of_getElem? (i := 21) rfl))) (ty := .int) (by decide)
  have F77 : Fld Z h62 o62 "com/example/rhoquery/rhoquery/Information$Theta" "theta" "I" (.int (0 : Int32)) := D62 (Or.inr (hw _ (List.mem_of_getElem? (i := 23) rfl))) (ty := .int) (by decide)
  have F78 : Fld Z h62 o62 "com/example/rhoquery/rhoquery/Information$Theta" "properties" "I" (.int (0 : Int32)) := D62 (Or.inr (hw _ (List.mem_of_getElem? (i := 25) rfl))) (ty := .int) (by decide)
  refine own_dup X62 hx (pc' := 91) rfl (hb hby at_90) rfl ?_
  refine own_iload X62 hx (pc' := 93) rfl (hb hby at_91) rfl ?_
  refine own_iconst X62 hx (v := (2 : Int32)) (pc' := 94) rfl (hb hby at_93) rfl ?_
  refine own_iload X62 hx (pc' := 96) rfl (hb hby at_94) rfl ?_
  refine own_imul X62 hx (v := ((2 : Int32) * th)) (pc' := 97) rfl (hb hby at_96) rfl ?_
  refine own_iloadN X62 hx (pc' := 98) rfl (hb hby at_97) rfl ?_
  refine own_callC X62 hx hZ (y := (⟨"com/example/rhoquery/rhoquery/Information$Theta", "<init>", "(III)V"⟩ : MethodName)) rfl hown (hw _ (List.mem_of_getElem? (i := 9) rfl)) (hw _ (List.mem_of_getElem? (i := 10) rfl)) (hw _ (List.mem_of_getElem? (i := 8) rfl)) (hw _ (List.mem_of_getElem? (i := 11) rfl))  (by decide) (rm_ctor l Z a0 hw [] o62 th ((2 : Int32) * th) p4 h62 n0 Siz_63 A62 F76 F77 F78 ge62) (by decide) (W := 1) (by decide) (by decide) (by decide) e62 (by rw [hml]; rfl) (argsL := [(.int th), (.int ((2 : Int32) * th)), (.int p4)]) (rest := [(.ref o62)]) rfl (lenOf pd__III_V rfl) rfl (Nat.le_of_eq rfl) (pc' := 101) rfl (hb hby at_98) ?_
  rintro _ T79 L79 X79 ⟨rfl, N79, K79, G79_0, G79_1, G79_2⟩
  have M79 := Fr.app M61 N79
  obtain ⟨h79, e79⟩ : ∃ z, T79.heap = z := ⟨_, rfl⟩
  rw [e79] at K79 G79_0 G79_1 G79_2
  have Siz_80 := Nat.le_trans Siz_63 K79.1
  have Exa_81 := Exa_64.keep K79
  have Exa_82 := Exa_65.keep K79
  have Fld_83 := Fld_66.keep K79 (ninS ne62_o2 nin0)
  have Fld_84 := Fld_67.keep K79 (ninS ne62_o2 nin0)
  have Exa_85 := Exa_68.keep K79
  have Exa_86 := Exa_69.keep K79
  have Fld_87 := Fld_70.keep K79 (ninS ne62_o14 nin0)
  have Fld_88 := Fld_71.keep K79 (ninS ne62_o14 nin0)
  have Exa_89 := Exa_72.keep K79
  have Exa_90 := Exa_73.keep K79
  have Fld_91 := Fld_74.keep K79 (ninS ne62_o34 nin0)
  have Fld_92 := Fld_75.keep K79 (ninS ne62_o34 nin0)
  have Exa_93 := A62.keep K79
  show own_Goes p e below T79 (mkF m 101 #[.val (.int p1), .val (.int p2), .val (.int p3), .val (.int p4), .val (.int th), .val (.int cn), .val (.int cm), .val (.double (FP.ddiv (FP.i2d cn) (FP.i2d th))), .second, .val (.double (FP.ddiv (FP.i2d cm) (FP.i2d th))), .second, .val (.double (FP.ddiv (FP.i2d ((2 : Int32) * cn)) (FP.i2d ((2 : Int32) * th)))), .second, .unset, .unset, .unset, .unset, .unset, .unset, .unset, .unset, .unset, .unset, .unset] [(.ref o62)]) _
  refine own_callV X79 hx hZ (y := (⟨"com/example/rhoquery/rhoquery/Information$Theta", "specificity", "()D"⟩ : MethodName)) hown (hw _ (List.mem_of_getElem? (i := 26) rfl)) (hw _ (List.mem_of_getElem? (i := 27) rfl)) (hw _ (List.mem_of_getElem? (i := 29) rfl)) (hw _ (List.mem_of_getElem? (i := 28) rfl)) (hw _ (List.mem_of_getElem? (i := 8) rfl)) (hw _ (List.mem_of_getElem? (i := 30) rfl)) Exa_93  (by decide) (rm_spec l Z a0 hw [] th ((2 : Int32) * th) o62 h79 n0 Siz_80 Exa_93 G79_1 G79_2 (Int.le_of_lt hth.1) (by rw [own_tw (Int.le_of_lt hth.1) hth.2]; omega)) (by decide) (W := 0) (by decide) (by decide) (by decide) e79 (by rw [hml]; rfl) (argsL := []) (rest := []) rfl (lenOf pd___D rfl) rfl (Nat.le_of_eq rfl) (pc' := 104) rfl (hb hby at_101) ?_
  rintro _ T97 L97 X97 ⟨rfl, N97, e97⟩
  have M97 := Fr.app M79 N97
  show own_Goes p e below T97 (mkF m 104 #[.val (.int p1), .val (.int p2), .val (.int p3), .val (.int p4), .val (.int th), .val (.int cn), .val (.int cm), .val (.double (FP.ddiv (FP.i2d cn) (FP.i2d th))), .second, .val (.double (FP.ddiv (FP.i2d cm) (FP.i2d th))), .second, .val (.double (FP.ddiv (FP.i2d ((2 : Int32) * cn)) (FP.i2d ((2 : Int32) * th)))), .second, .unset, .unset, .unset, .unset, .unset, .unset, .unset, .unset, .unset, .unset, .unset] [(.double (FP.ddiv (FP.i2d th) (FP.i2d ((2 : Int32) * th))))]) _
  refine own_dstore X97 hx (Ls' := #[.val (.int p1), .val (.int p2), .val (.int p3), .val (.int p4), .val (.int th), .val (.int cn), .val (.int cm), .val (.double (FP.ddiv (FP.i2d cn) (FP.i2d th))), .second, .val (.double (FP.ddiv (FP.i2d cm) (FP.i2d th))), .second, .val (.double (FP.ddiv (FP.i2d ((2 : Int32) * cn)) (FP.i2d ((2 : Int32) * th)))), .second, .val (.double (FP.ddiv (FP.i2d th) (FP.i2d ((2 : Int32) * th)))), .second, .unset, .unset, .unset, .unset, .unset, .unset, .unset, .unset, .unset]) (pc' := 106) rfl (hb hby at_104) rfl ?_
  refine own_new X97 hx hZ hown (hw _ (List.mem_of_getElem? (i := 6) rfl)) (hw _ (List.mem_of_getElem? (i := 7) rfl)) (hw _ (List.mem_of_getElem? (i := 8) rfl)) e97 (pc' := 109) rfl (hb hby at_106) (by decide) (by decide) ?_
  intro T98 h98 X98 e98 E98 A98 D98
  obtain ⟨o98, g98⟩ : ∃ z, z = h79.size := ⟨_, rfl⟩
  rw [← g98] at A98 D98 ⊢
  have ne98_o2 : o2 ≠ o98 := Nat.ne_of_lt (g98 ▸ Exa_81.lt)
  have ne98_o14 : o14 ≠ o98 := Nat.ne_of_lt (g98 ▸ Exa_85.lt)
  have ne98_o34 : o34 ≠ o98 := Nat.ne_of_lt (g98 ▸ Exa_89.lt)
  have ne98_o62 : o62 ≠ o98 := Nat.ne_of_lt (g98 ▸ Exa_93.lt)
  have ge98 : n0 ≤ o98 := g98 ▸ Siz_80
  have Siz_99 := Nat.le_trans Siz_80 E98.1
  have Exa_100 := Exa.ext E98 Exa_81
  have Exa_101 := Exa.ext E98 Exa_82
  have Fld_102 := Fld.ext E98 Fld_83
  have Fld_103 := Fld.ext E98 Fld_84
  have Exa_104 := Exa.ext E98 Exa_85
  have Exa_105 := Exa.ext E98 Exa_86
  have Fld_106 := Fld.ext E98 Fld_87
  have Fld_107 := Fld.ext E98 Fld_88
  have Exa_108 := Exa.ext E98 Exa_89
  have Exa_109 := Exa.ext E98 Exa_90
  have Fld_110 := Fld.ext E98 Fld_91
  have Fld_111 := Fld.ext E98 Fld_92
  have Exa_112 := Exa.ext E98 Exa_93
  have Exa_113 := Exa.ext E98 G79_0
  have Fld_114 := Fld.ext E98 G79_1
  have Fld_115 := Fld.ext E98 G79_2
  have F116 : Fld Z h98 o98 "com/example/rhoquery/rhoquery/Information$Theta" "count" "I" (.int (0 : Int32)) := D98 (Or.inr (hw _ (List.mem_of_getElem? (i := 21) rfl))) (ty := .int) (by decide)
  have F117 : Fld Z h98 o98 "com/example/rhoquery/rhoquery/Information$Theta" "theta" "I" (.int (0 : Int32)) := D98 (Or.inr (hw _ (List.mem_of_getElem? (i := 23) rfl))) (ty := .int) (by decide)
  have F118 : Fld Z h98 o98 "com/example/rhoquery/rhoquery/Information$Theta" "properties" "I" (.int (0 : Int32)) := D98 (Or.inr (hw _ (List.mem_of_getElem? (i := 25) rfl))) (ty := .int) (by decide)
  refine own_dup X98 hx (pc' := 110) rfl (hb hby at_109) rfl ?_
  refine own_iload X98 hx (pc' := 112) rfl (hb hby at_110) rfl ?_
  refine own_iload X98 hx (pc' := 114) rfl (hb hby at_112) rfl ?_
  refine own_iconst X98 hx (v := (1 : Int32)) (pc' := 115) rfl (hb hby at_114) rfl ?_
  refine own_iadd X98 hx (v := (th + (1 : Int32))) (pc' := 116) rfl (hb hby at_115) rfl ?_
  refine own_iloadN X98 hx (pc' := 117) rfl (hb hby at_116) rfl ?_
  refine own_callC X98 hx hZ (y := (⟨"com/example/rhoquery/rhoquery/Information$Theta", "<init>", "(III)V"⟩ : MethodName)) rfl hown (hw _ (List.mem_of_getElem? (i := 9) rfl)) (hw _ (List.mem_of_getElem? (i := 10) rfl)) (hw _ (List.mem_of_getElem? (i := 8) rfl)) (hw _ (List.mem_of_getElem? (i := 11) rfl))  (by decide) (rm_ctor l Z a0 hw [] o98 cn (th + (1 : Int32)) p4 h98 n0 Siz_99 A98 F116 F117 F118 ge98) (by decide) (W := 1) (by decide) (by decide) (by decide) e98 (by rw [hml]; rfl) (argsL := [(.int cn), (.int (th + (1 : Int32))), (.int p4)]) (rest := [(.ref o98)]) rfl (lenOf pd__III_V rfl) rfl (Nat.le_of_eq rfl) (pc' := 120) rfl (hb hby at_117) ?_
  rintro _ T119 L119 X119 ⟨rfl, N119, K119, G119_0, G119_1, G119_2⟩
  have M119 := Fr.app M97 N119
  obtain ⟨h119, e119⟩ : ∃ z, T119.heap = z := ⟨_, rfl⟩
  rw [e119] at K119 G119_0 G119_1 G119_2
  have Siz_120 := Nat.le_trans Siz_99 K119.1
  have Exa_121 := Exa_100.keep K119
  have Exa_122 := Exa_101.keep K119
  have Fld_123 := Fld_102.keep K119 (ninS ne98_o2 nin0)
  have Fld_124 := Fld_103.keep K119 (ninS ne98_o2 nin0)
  have Exa_125 := Exa_104.keep K119
  have Exa_126 := Exa_105.keep K119
  have Fld_127 := Fld_106.keep K119 (ninS ne98_o14 nin0)
  have Fld_128 := Fld_107.keep K119 (ninS ne98_o14 nin0)
  have Exa_129 := Exa_108.keep K119
  have Exa_130 := Exa_109.keep K119
  have Fld_131 := Fld_110.keep K119 (ninS ne98_o34 nin0)
  have Fld_132 := Fld_111.keep K119 (ninS ne98_o34 nin0)
  have Exa_133 := Exa_112.keep K119
  have Exa_134 := Exa_113.keep K119
  have Fld_135 := Fld_114.keep K119 (ninS ne98_o62 nin0)
  have Fld_136 := Fld_115.keep K119 (ninS ne98_o62 nin0)
  have Exa_137 := A98.keep K119
  show own_Goes p e below T119 (mkF m 120 #[.val (.int p1), .val (.int p2), .val (.int p3), .val (.int p4), .val (.int th), .val (.int cn), .val (.int cm), .val (.double (FP.ddiv (FP.i2d cn) (FP.i2d th))), .second, .val (.double (FP.ddiv (FP.i2d cm) (FP.i2d th))), .second, .val (.double (FP.ddiv (FP.i2d ((2 : Int32) * cn)) (FP.i2d ((2 : Int32) * th)))), .second, .val (.double (FP.ddiv (FP.i2d th) (FP.i2d ((2 : Int32) * th)))), .second, .unset, .unset, .unset, .unset, .unset, .unset, .unset, .unset, .unset] [(.ref o98)]) _
  refine own_callV X119 hx hZ (y := (⟨"com/example/rhoquery/rhoquery/Information$Theta", "specificity", "()D"⟩ : MethodName)) hown (hw _ (List.mem_of_getElem? (i := 26) rfl)) (hw _ (List.mem_of_getElem? (i := 27) rfl)) (hw _ (List.mem_of_getElem? (i := 29) rfl)) (hw _ (List.mem_of_getElem? (i := 28) rfl)) (hw _ (List.mem_of_getElem? (i := 8) rfl)) (hw _ (List.mem_of_getElem? (i := 30) rfl)) Exa_137  (by decide) (rm_spec l Z a0 hw [] cn (th + (1 : Int32)) o98 h119 n0 Siz_120 Exa_137 G119_1 G119_2 hcn.1 (by rw [own_suc (Int.le_of_lt hth.1) hth.2]; omega)) (by decide) (W := 0) (by decide) (by decide) (by decide) e119 (by rw [hml]; rfl) (argsL := []) (rest := []) rfl (lenOf pd___D rfl) rfl (Nat.le_of_eq rfl) (pc' := 123) rfl (hb hby at_120) ?_
  rintro _ T141 L141 X141 ⟨rfl, N141, e141⟩
  have M141 := Fr.app M119 N141
  show own_Goes p e below T141 (mkF m 123 #[.val (.int p1), .val (.int p2), .val (.int p3), .val (.int p4), .val (.int th), .val (.int cn), .val (.int cm), .val (.double (FP.ddiv (FP.i2d cn) (FP.i2d th))), .second, .val (.double (FP.ddiv (FP.i2d cm) (FP.i2d th))), .second, .val (.double (FP.ddiv (FP.i2d ((2 : Int32) * cn)) (FP.i2d ((2 : Int32) * th)))), .second, .val (.double (FP.ddiv (FP.i2d th) (FP.i2d ((2 : Int32) * th)))), .second, .unset, .unset, .unset, .unset, .unset, .unset, .unset, .unset, .unset] [(.double (FP.ddiv (FP.i2d cn) (FP.i2d (th + (1 : Int32)))))]) _
  refine own_dstore X141 hx (Ls' := #[.val (.int p1), .val (.int p2), .val (.int p3), .val (.int p4), .val (.int th), .val (.int cn), .val (.int cm), .val (.double (FP.ddiv (FP.i2d cn) (FP.i2d th))), .second, .val (.double (FP.ddiv (FP.i2d cm) (FP.i2d th))), .second, .val (.double (FP.ddiv (FP.i2d ((2 : Int32) * cn)) (FP.i2d ((2 : Int32) * th)))), .second, .val (.double (FP.ddiv (FP.i2d th) (FP.i2d ((2 : Int32) * th)))), .second, .val (.double (FP.ddiv (FP.i2d cn) (FP.i2d (th + (1 : Int32))))), .second, .unset, .unset, .unset, .unset, .unset, .unset, .unset]) (pc' := 125) rfl (hb hby at_123) rfl ?_
  have zs := own_Zq hcn.1 hth.1
  have zs2 := own_Zq hcm.1 hth.1
  have zsc := own_Zq (x := ((2 : Int32) * cn)) (y := ((2 : Int32) * th)) (by rw [own_tw hcn.1 (Int.lt_of_le_of_lt hcn.2 hth.2)]; omega) (by rw [own_tw (Int.le_of_lt hth.1) hth.2]; omega)
  rw [own_scale hcn.1 hcn.2 hth.1 hth.2] at zsc
  have zh := own_Zq (x := th) (y := ((2 : Int32) * th)) (Int.le_of_lt hth.1) (by rw [own_tw (Int.le_of_lt hth.1) hth.2]; omega)
  rw [own_half hth.1 hth.2] at zh
  have zw := own_Zq (x := cn) (y := (th + (1 : Int32))) hcn.1 (by rw [own_suc (Int.le_of_lt hth.1) hth.2]; omega)
  obtain ⟨q1, q2, q3, q4⟩ := own_all hcn.1 hcn.2 hth.1
  by_cases a0 : cn = 0
  · have a1 : ¬ cn = th := fun q => by have e := (own_i0 cn).mp a0; rw [q] at e; omega
    by_cases a2 : cn < cm
    · have a3 : ¬ cn = cm := fun q => by rw [q] at a2; exact absurd a2 (by rw [Int32.lt_iff_toInt_lt]; omega)
      refine own_dconst0 X141 hx (v := FP.dconst0) (pc' := 126) rfl (hb hby at_125) rfl ?_
      refine own_dload X141 hx (pc' := 128) rfl (hb hby at_126) rfl ?_
      refine own_dcmp X141 hx (v := (0 : Int32)) (pc' := 129) rfl (hb hby at_128) (own_deq own_Z0 zs (q1 a0) _) ?_
      refine own_ifF X141 hx (pc' := 132) rfl (hb hby at_129) (XT.i0_gt_f (by decide)) ?_
      refine own_dload X141 hx (pc' := 134) rfl (hb hby at_132) rfl ?_
      refine own_dconst1 X141 hx (v := FP.dconst1) (pc' := 135) rfl (hb hby at_134) rfl ?_
      refine own_dcmp X141 hx (v := (-1 : Int32)) (pc' := 136) rfl (hb hby at_135) (own_dlt zs own_Z1 (q4 a1) _) ?_
      refine own_ifF X141 hx (pc' := 139) rfl (hb hby at_136) (XT.i0_gt_f (by decide)) ?_
      refine own_iconst X141 hx (v := (1 : Int32)) (pc' := 140) rfl (hb hby at_139) rfl ?_
      refine own_goto X141 hx (pc' := 144) (hb hby at_140) (by decide) (by decide) ?_
      refine own_istore X141 hx (Ls' := #[.val (.int p1), .val (.int p2), .val (.int p3), .val (.int p4), .val (.int th), .val (.int cn), .val (.int cm), .val (.double (FP.ddiv (FP.i2d cn) (FP.i2d th))), .second, .val (.double (FP.ddiv (FP.i2d cm) (FP.i2d th))), .second, .val (.double (FP.ddiv (FP.i2d ((2 : Int32) * cn)) (FP.i2d ((2 : Int32) * th)))), .second, .val (.double (FP.ddiv (FP.i2d th) (FP.i2d ((2 : Int32) * th)))), .second, .val (.double (FP.ddiv (FP.i2d cn) (FP.i2d (th + (1 : Int32))))), .second, .val (.int (1 : Int32)), .unset, .unset, .unset, .unset, .unset, .unset]) (pc' := 146) rfl (hb hby at_144) rfl ?_
      refine own_dload X141 hx (pc' := 148) rfl (hb hby at_146) rfl ?_
      refine own_dconst0 X141 hx (v := FP.dconst0) (pc' := 149) rfl (hb hby at_148) rfl ?_
      refine own_dcmp X141 hx (v := (0 : Int32)) (pc' := 150) rfl (hb hby at_149) (own_deq zs own_Z0 (q1 a0).symm _) ?_
      refine own_ifF X141 hx (pc' := 153) rfl (hb hby at_150) (XT.i0_ne_f (by decide)) ?_
      refine own_iconst X141 hx (v := (1 : Int32)) (pc' := 154) rfl (hb hby at_153) rfl ?_
      refine own_goto X141 hx (pc' := 158) (hb hby at_154) (by decide) (by decide) ?_
      refine own_iload X141 hx (pc' := 160) rfl (hb hby at_158) rfl ?_
      refine own_ifF X141 hx (pc' := 163) rfl (hb hby at_160) (XT.i0_ne_f a0) ?_
      refine own_iconst X141 hx (v := (1 : Int32)) (pc' := 164) rfl (hb hby at_163) rfl ?_
      refine own_goto X141 hx (pc' := 168) (hb hby at_164) (by decide) (by decide) ?_
      refine own_icmpF X141 hx (pc' := 171) rfl (hb hby at_168) (XT.ii_ne_f (by decide)) ?_
      refine own_iconst X141 hx (v := (1 : Int32)) (pc' := 172) rfl (hb hby at_171) rfl ?_
      refine own_goto X141 hx (pc' := 176) (hb hby at_172) (by decide) (by decide) ?_
      refine own_istore X141 hx (Ls' := #[.val (.int p1), .val (.int p2), .val (.int p3), .val (.int p4), .val (.int th), .val (.int cn), .val (.int cm), .val (.double (FP.ddiv (FP.i2d cn) (FP.i2d th))), .second, .val (.double (FP.ddiv (FP.i2d cm) (FP.i2d th))), .second, .val (.double (FP.ddiv (FP.i2d ((2 : Int32) * cn)) (FP.i2d ((2 : Int32) * th)))), .second, .val (.double (FP.ddiv (FP.i2d th) (FP.i2d ((2 : Int32) * th)))), .second, .val (.double (FP.ddiv (FP.i2d cn) (FP.i2d (th + (1 : Int32))))), .second, .val (.int (1 : Int32)), .val (.int (1 : Int32)), .unset, .unset, .unset, .unset, .unset]) (pc' := 178) rfl (hb hby at_176) rfl ?_
      refine own_dload X141 hx (pc' := 180) rfl (hb hby at_178) rfl ?_
      refine own_dconst1 X141 hx (v := FP.dconst1) (pc' := 181) rfl (hb hby at_180) rfl ?_
      refine own_dcmp X141 hx (v := (-1 : Int32)) (pc' := 182) rfl (hb hby at_181) (own_dlt zs own_Z1 (q4 a1) _) ?_
      refine own_ifT X141 hx (pc' := 189) (hb hby at_182) (XT.i0_ne_t (by decide)) (by decide) (by decide) ?_
      refine own_iconst X141 hx (v := (0 : Int32)) (pc' := 190) rfl (hb hby at_189) rfl ?_
      refine own_iload X141 hx (pc' := 192) rfl (hb hby at_190) rfl ?_
      refine own_iload X141 hx (pc' := 194) rfl (hb hby at_192) rfl ?_
      refine own_icmpT X141 hx (pc' := 201) (hb hby at_194) (XT.ii_ne_t a1) (by decide) (by decide) ?_
      refine own_iconst X141 hx (v := (0 : Int32)) (pc' := 202) rfl (hb hby at_201) rfl ?_
      refine own_icmpF X141 hx (pc' := 205) rfl (hb hby at_202) (XT.ii_ne_f (by decide)) ?_
      refine own_iconst X141 hx (v := (1 : Int32)) (pc' := 206) rfl (hb hby at_205) rfl ?_
      refine own_goto X141 hx (pc' := 210) (hb hby at_206) (by decide) (by decide) ?_
      refine own_istore X141 hx (Ls' := #[.val (.int p1), .val (.int p2), .val (.int p3), .val (.int p4), .val (.int th), .val (.int cn), .val (.int cm), .val (.double (FP.ddiv (FP.i2d cn) (FP.i2d th))), .second, .val (.double (FP.ddiv (FP.i2d cm) (FP.i2d th))), .second, .val (.double (FP.ddiv (FP.i2d ((2 : Int32) * cn)) (FP.i2d ((2 : Int32) * th)))), .second, .val (.double (FP.ddiv (FP.i2d th) (FP.i2d ((2 : Int32) * th)))), .second, .val (.double (FP.ddiv (FP.i2d cn) (FP.i2d (th + (1 : Int32))))), .second, .val (.int (1 : Int32)), .val (.int (1 : Int32)), .val (.int (1 : Int32)), .unset, .unset, .unset, .unset]) (pc' := 212) rfl (hb hby at_210) rfl ?_
      refine own_dload X141 hx (pc' := 214) rfl (hb hby at_212) rfl ?_
      refine own_dload X141 hx (pc' := 216) rfl (hb hby at_214) rfl ?_
      refine own_dcmp X141 hx (v := (0 : Int32)) (pc' := 217) rfl (hb hby at_216) (own_deq zsc zs rfl _) ?_
      refine own_ifF X141 hx (pc' := 220) rfl (hb hby at_217) (XT.i0_ne_f (by decide)) ?_
      refine own_iconst X141 hx (v := (1 : Int32)) (pc' := 221) rfl (hb hby at_220) rfl ?_
      refine own_goto X141 hx (pc' := 225) (hb hby at_221) (by decide) (by decide) ?_
      refine own_istore X141 hx (Ls' := #[.val (.int p1), .val (.int p2), .val (.int p3), .val (.int p4), .val (.int th), .val (.int cn), .val (.int cm), .val (.double (FP.ddiv (FP.i2d cn) (FP.i2d th))), .second, .val (.double (FP.ddiv (FP.i2d cm) (FP.i2d th))), .second, .val (.double (FP.ddiv (FP.i2d ((2 : Int32) * cn)) (FP.i2d ((2 : Int32) * th)))), .second, .val (.double (FP.ddiv (FP.i2d th) (FP.i2d ((2 : Int32) * th)))), .second, .val (.double (FP.ddiv (FP.i2d cn) (FP.i2d (th + (1 : Int32))))), .second, .val (.int (1 : Int32)), .val (.int (1 : Int32)), .val (.int (1 : Int32)), .val (.int (1 : Int32)), .unset, .unset, .unset]) (pc' := 227) rfl (hb hby at_225) rfl ?_
      refine own_dload X141 hx (pc' := 229) rfl (hb hby at_227) rfl ?_
      refine own_ldcD X141 hx hZ hown (hw _ (List.mem_of_getElem? (i := 31) rfl)) (pc' := 232) rfl (hb hby at_229) ?_
      refine own_dcmp X141 hx (v := (0 : Int32)) (pc' := 233) rfl (hb hby at_232) (own_deq zh own_Zh rfl _) ?_
      refine own_ifF X141 hx (pc' := 236) rfl (hb hby at_233) (XT.i0_ne_f (by decide)) ?_
      refine own_iconst X141 hx (v := (1 : Int32)) (pc' := 237) rfl (hb hby at_236) rfl ?_
      refine own_goto X141 hx (pc' := 241) (hb hby at_237) (by decide) (by decide) ?_
      refine own_istore X141 hx (Ls' := #[.val (.int p1), .val (.int p2), .val (.int p3), .val (.int p4), .val (.int th), .val (.int cn), .val (.int cm), .val (.double (FP.ddiv (FP.i2d cn) (FP.i2d th))), .second, .val (.double (FP.ddiv (FP.i2d cm) (FP.i2d th))), .second, .val (.double (FP.ddiv (FP.i2d ((2 : Int32) * cn)) (FP.i2d ((2 : Int32) * th)))), .second, .val (.double (FP.ddiv (FP.i2d th) (FP.i2d ((2 : Int32) * th)))), .second, .val (.double (FP.ddiv (FP.i2d cn) (FP.i2d (th + (1 : Int32))))), .second, .val (.int (1 : Int32)), .val (.int (1 : Int32)), .val (.int (1 : Int32)), .val (.int (1 : Int32)), .val (.int (1 : Int32)), .unset, .unset]) (pc' := 243) rfl (hb hby at_241) rfl ?_
      refine own_iload X141 hx (pc' := 245) rfl (hb hby at_243) rfl ?_
      refine own_iload X141 hx (pc' := 247) rfl (hb hby at_245) rfl ?_
      refine own_icmpF X141 hx (pc' := 250) rfl (hb hby at_247) (XT.ii_ge_f a2) ?_
      refine own_iconst X141 hx (v := (1 : Int32)) (pc' := 251) rfl (hb hby at_250) rfl ?_
      refine own_goto X141 hx (pc' := 255) (hb hby at_251) (by decide) (by decide) ?_
      refine own_dload X141 hx (pc' := 257) rfl (hb hby at_255) rfl ?_
      refine own_dload X141 hx (pc' := 259) rfl (hb hby at_257) rfl ?_
      refine own_dcmp X141 hx (v := (-1 : Int32)) (pc' := 260) rfl (hb hby at_259) (own_dlt zs zs2 (own_incr hcn.1 hcm.2 hth.1 a2) _) ?_
      refine own_ifF X141 hx (pc' := 263) rfl (hb hby at_260) (XT.i0_ge_f (by decide)) ?_
      refine own_iconst X141 hx (v := (1 : Int32)) (pc' := 264) rfl (hb hby at_263) rfl ?_
      refine own_goto X141 hx (pc' := 268) (hb hby at_264) (by decide) (by decide) ?_
      refine own_icmpF X141 hx (pc' := 271) rfl (hb hby at_268) (XT.ii_ne_f (by decide)) ?_
      refine own_iload X141 hx (pc' := 273) rfl (hb hby at_271) rfl ?_
      refine own_iload X141 hx (pc' := 275) rfl (hb hby at_273) rfl ?_
      refine own_icmpT X141 hx (pc' := 282) (hb hby at_275) (XT.ii_ne_t a3) (by decide) (by decide) ?_
      refine own_iconst X141 hx (v := (0 : Int32)) (pc' := 283) rfl (hb hby at_282) rfl ?_
      refine own_dload X141 hx (pc' := 285) rfl (hb hby at_283) rfl ?_
      refine own_dload X141 hx (pc' := 287) rfl (hb hby at_285) rfl ?_
      refine own_dcmp X141 hx (v := (-1 : Int32)) (pc' := 288) rfl (hb hby at_287) (own_dlt zs zs2 (own_incr hcn.1 hcm.2 hth.1 a2) _) ?_
      refine own_ifT X141 hx (pc' := 295) (hb hby at_288) (XT.i0_ne_t (by decide)) (by decide) (by decide) ?_
      refine own_iconst X141 hx (v := (0 : Int32)) (pc' := 296) rfl (hb hby at_295) rfl ?_
      refine own_icmpF X141 hx (pc' := 299) rfl (hb hby at_296) (XT.ii_ne_f (by decide)) ?_
      refine own_iconst X141 hx (v := (1 : Int32)) (pc' := 300) rfl (hb hby at_299) rfl ?_
      refine own_goto X141 hx (pc' := 304) (hb hby at_300) (by decide) (by decide) ?_
      refine own_istore X141 hx (Ls' := #[.val (.int p1), .val (.int p2), .val (.int p3), .val (.int p4), .val (.int th), .val (.int cn), .val (.int cm), .val (.double (FP.ddiv (FP.i2d cn) (FP.i2d th))), .second, .val (.double (FP.ddiv (FP.i2d cm) (FP.i2d th))), .second, .val (.double (FP.ddiv (FP.i2d ((2 : Int32) * cn)) (FP.i2d ((2 : Int32) * th)))), .second, .val (.double (FP.ddiv (FP.i2d th) (FP.i2d ((2 : Int32) * th)))), .second, .val (.double (FP.ddiv (FP.i2d cn) (FP.i2d (th + (1 : Int32))))), .second, .val (.int (1 : Int32)), .val (.int (1 : Int32)), .val (.int (1 : Int32)), .val (.int (1 : Int32)), .val (.int (1 : Int32)), .val (.int (1 : Int32)), .unset]) (pc' := 306) rfl (hb hby at_304) rfl ?_
      refine own_dload X141 hx (pc' := 308) rfl (hb hby at_306) rfl ?_
      refine own_dload X141 hx (pc' := 310) rfl (hb hby at_308) rfl ?_
      refine own_dcmp X141 hx (v := (cmpValue (FP.dcmp (FP.ddiv (FP.i2d cn) (FP.i2d (th + (1 : Int32)))) (FP.ddiv (FP.i2d cn) (FP.i2d th))) .g)) (pc' := 311) rfl (hb hby at_310) rfl ?_
      refine own_ifF X141 hx (pc' := 314) rfl (hb hby at_311) (XT.i0_gt_f (own_dle zw zs (own_wide hcn.2 hth.1 hth.2) _)) ?_
      refine own_iconst X141 hx (v := (1 : Int32)) (pc' := 315) rfl (hb hby at_314) rfl ?_
      refine own_goto X141 hx (pc' := 319) (hb hby at_315) (by decide) (by decide) ?_
      refine own_istore X141 hx (Ls' := #[.val (.int p1), .val (.int p2), .val (.int p3), .val (.int p4), .val (.int th), .val (.int cn), .val (.int cm), .val (.double (FP.ddiv (FP.i2d cn) (FP.i2d th))), .second, .val (.double (FP.ddiv (FP.i2d cm) (FP.i2d th))), .second, .val (.double (FP.ddiv (FP.i2d ((2 : Int32) * cn)) (FP.i2d ((2 : Int32) * th)))), .second, .val (.double (FP.ddiv (FP.i2d th) (FP.i2d ((2 : Int32) * th)))), .second, .val (.double (FP.ddiv (FP.i2d cn) (FP.i2d (th + (1 : Int32))))), .second, .val (.int (1 : Int32)), .val (.int (1 : Int32)), .val (.int (1 : Int32)), .val (.int (1 : Int32)), .val (.int (1 : Int32)), .val (.int (1 : Int32)), .val (.int (1 : Int32))]) (pc' := 321) rfl (hb hby at_319) rfl ?_
      refine own_iload X141 hx (pc' := 323) rfl (hb hby at_321) rfl ?_
      refine own_ifF X141 hx (pc' := 326) rfl (hb hby at_323) (XT.i0_eq_f (by decide)) ?_
      refine own_iload X141 hx (pc' := 328) rfl (hb hby at_326) rfl ?_
      refine own_ifF X141 hx (pc' := 331) rfl (hb hby at_328) (XT.i0_eq_f (by decide)) ?_
      refine own_iload X141 hx (pc' := 333) rfl (hb hby at_331) rfl ?_
      refine own_ifF X141 hx (pc' := 336) rfl (hb hby at_333) (XT.i0_eq_f (by decide)) ?_
      refine own_iload X141 hx (pc' := 338) rfl (hb hby at_336) rfl ?_
      refine own_ifF X141 hx (pc' := 341) rfl (hb hby at_338) (XT.i0_eq_f (by decide)) ?_
      refine own_iload X141 hx (pc' := 343) rfl (hb hby at_341) rfl ?_
      refine own_ifF X141 hx (pc' := 346) rfl (hb hby at_343) (XT.i0_eq_f (by decide)) ?_
      refine own_iload X141 hx (pc' := 348) rfl (hb hby at_346) rfl ?_
      refine own_ifF X141 hx (pc' := 351) rfl (hb hby at_348) (XT.i0_eq_f (by decide)) ?_
      refine own_iload X141 hx (pc' := 353) rfl (hb hby at_351) rfl ?_
      refine own_ifF X141 hx (pc' := 356) rfl (hb hby at_353) (XT.i0_eq_f (by decide)) ?_
      refine own_iconst X141 hx (v := (1 : Int32)) (pc' := 357) rfl (hb hby at_356) rfl ?_
      refine own_goto X141 hx (pc' := 361) (hb hby at_357) (by decide) (by decide) ?_
      refine own_zret X141 hx hlk hret (by simp) (hb hby at_361) (by decide) (by decide) ?_
      rw [e141]
      exact ⟨rfl, M141⟩
    by_cases a3 : cn = cm
    · have a4 := a3
      refine own_dconst0 X141 hx (v := FP.dconst0) (pc' := 126) rfl (hb hby at_125) rfl ?_
      refine own_dload X141 hx (pc' := 128) rfl (hb hby at_126) rfl ?_
      refine own_dcmp X141 hx (v := (0 : Int32)) (pc' := 129) rfl (hb hby at_128) (own_deq own_Z0 zs (q1 a0) _) ?_
      refine own_ifF X141 hx (pc' := 132) rfl (hb hby at_129) (XT.i0_gt_f (by decide)) ?_
      refine own_dload X141 hx (pc' := 134) rfl (hb hby at_132) rfl ?_
      refine own_dconst1 X141 hx (v := FP.dconst1) (pc' := 135) rfl (hb hby at_134) rfl ?_
      refine own_dcmp X141 hx (v := (-1 : Int32)) (pc' := 136) rfl (hb hby at_135) (own_dlt zs own_Z1 (q4 a1) _) ?_
      refine own_ifF X141 hx (pc' := 139) rfl (hb hby at_136) (XT.i0_gt_f (by decide)) ?_
      refine own_iconst X141 hx (v := (1 : Int32)) (pc' := 140) rfl (hb hby at_139) rfl ?_
      refine own_goto X141 hx (pc' := 144) (hb hby at_140) (by decide) (by decide) ?_
      refine own_istore X141 hx (Ls' := #[.val (.int p1), .val (.int p2), .val (.int p3), .val (.int p4), .val (.int th), .val (.int cn), .val (.int cm), .val (.double (FP.ddiv (FP.i2d cn) (FP.i2d th))), .second, .val (.double (FP.ddiv (FP.i2d cm) (FP.i2d th))), .second, .val (.double (FP.ddiv (FP.i2d ((2 : Int32) * cn)) (FP.i2d ((2 : Int32) * th)))), .second, .val (.double (FP.ddiv (FP.i2d th) (FP.i2d ((2 : Int32) * th)))), .second, .val (.double (FP.ddiv (FP.i2d cn) (FP.i2d (th + (1 : Int32))))), .second, .val (.int (1 : Int32)), .unset, .unset, .unset, .unset, .unset, .unset]) (pc' := 146) rfl (hb hby at_144) rfl ?_
      refine own_dload X141 hx (pc' := 148) rfl (hb hby at_146) rfl ?_
      refine own_dconst0 X141 hx (v := FP.dconst0) (pc' := 149) rfl (hb hby at_148) rfl ?_
      refine own_dcmp X141 hx (v := (0 : Int32)) (pc' := 150) rfl (hb hby at_149) (own_deq zs own_Z0 (q1 a0).symm _) ?_
      refine own_ifF X141 hx (pc' := 153) rfl (hb hby at_150) (XT.i0_ne_f (by decide)) ?_
      refine own_iconst X141 hx (v := (1 : Int32)) (pc' := 154) rfl (hb hby at_153) rfl ?_
      refine own_goto X141 hx (pc' := 158) (hb hby at_154) (by decide) (by decide) ?_
      refine own_iload X141 hx (pc' := 160) rfl (hb hby at_158) rfl ?_
      refine own_ifF X141 hx (pc' := 163) rfl (hb hby at_160) (XT.i0_ne_f a0) ?_
      refine own_iconst X141 hx (v := (1 : Int32)) (pc' := 164) rfl (hb hby at_163) rfl ?_
      refine own_goto X141 hx (pc' := 168) (hb hby at_164) (by decide) (by decide) ?_
      refine own_icmpF X141 hx (pc' := 171) rfl (hb hby at_168) (XT.ii_ne_f (by decide)) ?_
      refine own_iconst X141 hx (v := (1 : Int32)) (pc' := 172) rfl (hb hby at_171) rfl ?_
      refine own_goto X141 hx (pc' := 176) (hb hby at_172) (by decide) (by decide) ?_
      refine own_istore X141 hx (Ls' := #[.val (.int p1), .val (.int p2), .val (.int p3), .val (.int p4), .val (.int th), .val (.int cn), .val (.int cm), .val (.double (FP.ddiv (FP.i2d cn) (FP.i2d th))), .second, .val (.double (FP.ddiv (FP.i2d cm) (FP.i2d th))), .second, .val (.double (FP.ddiv (FP.i2d ((2 : Int32) * cn)) (FP.i2d ((2 : Int32) * th)))), .second, .val (.double (FP.ddiv (FP.i2d th) (FP.i2d ((2 : Int32) * th)))), .second, .val (.double (FP.ddiv (FP.i2d cn) (FP.i2d (th + (1 : Int32))))), .second, .val (.int (1 : Int32)), .val (.int (1 : Int32)), .unset, .unset, .unset, .unset, .unset]) (pc' := 178) rfl (hb hby at_176) rfl ?_
      refine own_dload X141 hx (pc' := 180) rfl (hb hby at_178) rfl ?_
      refine own_dconst1 X141 hx (v := FP.dconst1) (pc' := 181) rfl (hb hby at_180) rfl ?_
      refine own_dcmp X141 hx (v := (-1 : Int32)) (pc' := 182) rfl (hb hby at_181) (own_dlt zs own_Z1 (q4 a1) _) ?_
      refine own_ifT X141 hx (pc' := 189) (hb hby at_182) (XT.i0_ne_t (by decide)) (by decide) (by decide) ?_
      refine own_iconst X141 hx (v := (0 : Int32)) (pc' := 190) rfl (hb hby at_189) rfl ?_
      refine own_iload X141 hx (pc' := 192) rfl (hb hby at_190) rfl ?_
      refine own_iload X141 hx (pc' := 194) rfl (hb hby at_192) rfl ?_
      refine own_icmpT X141 hx (pc' := 201) (hb hby at_194) (XT.ii_ne_t a1) (by decide) (by decide) ?_
      refine own_iconst X141 hx (v := (0 : Int32)) (pc' := 202) rfl (hb hby at_201) rfl ?_
      refine own_icmpF X141 hx (pc' := 205) rfl (hb hby at_202) (XT.ii_ne_f (by decide)) ?_
      refine own_iconst X141 hx (v := (1 : Int32)) (pc' := 206) rfl (hb hby at_205) rfl ?_
      refine own_goto X141 hx (pc' := 210) (hb hby at_206) (by decide) (by decide) ?_
      refine own_istore X141 hx (Ls' := #[.val (.int p1), .val (.int p2), .val (.int p3), .val (.int p4), .val (.int th), .val (.int cn), .val (.int cm), .val (.double (FP.ddiv (FP.i2d cn) (FP.i2d th))), .second, .val (.double (FP.ddiv (FP.i2d cm) (FP.i2d th))), .second, .val (.double (FP.ddiv (FP.i2d ((2 : Int32) * cn)) (FP.i2d ((2 : Int32) * th)))), .second, .val (.double (FP.ddiv (FP.i2d th) (FP.i2d ((2 : Int32) * th)))), .second, .val (.double (FP.ddiv (FP.i2d cn) (FP.i2d (th + (1 : Int32))))), .second, .val (.int (1 : Int32)), .val (.int (1 : Int32)), .val (.int (1 : Int32)), .unset, .unset, .unset, .unset]) (pc' := 212) rfl (hb hby at_210) rfl ?_
      refine own_dload X141 hx (pc' := 214) rfl (hb hby at_212) rfl ?_
      refine own_dload X141 hx (pc' := 216) rfl (hb hby at_214) rfl ?_
      refine own_dcmp X141 hx (v := (0 : Int32)) (pc' := 217) rfl (hb hby at_216) (own_deq zsc zs rfl _) ?_
      refine own_ifF X141 hx (pc' := 220) rfl (hb hby at_217) (XT.i0_ne_f (by decide)) ?_
      refine own_iconst X141 hx (v := (1 : Int32)) (pc' := 221) rfl (hb hby at_220) rfl ?_
      refine own_goto X141 hx (pc' := 225) (hb hby at_221) (by decide) (by decide) ?_
      refine own_istore X141 hx (Ls' := #[.val (.int p1), .val (.int p2), .val (.int p3), .val (.int p4), .val (.int th), .val (.int cn), .val (.int cm), .val (.double (FP.ddiv (FP.i2d cn) (FP.i2d th))), .second, .val (.double (FP.ddiv (FP.i2d cm) (FP.i2d th))), .second, .val (.double (FP.ddiv (FP.i2d ((2 : Int32) * cn)) (FP.i2d ((2 : Int32) * th)))), .second, .val (.double (FP.ddiv (FP.i2d th) (FP.i2d ((2 : Int32) * th)))), .second, .val (.double (FP.ddiv (FP.i2d cn) (FP.i2d (th + (1 : Int32))))), .second, .val (.int (1 : Int32)), .val (.int (1 : Int32)), .val (.int (1 : Int32)), .val (.int (1 : Int32)), .unset, .unset, .unset]) (pc' := 227) rfl (hb hby at_225) rfl ?_
      refine own_dload X141 hx (pc' := 229) rfl (hb hby at_227) rfl ?_
      refine own_ldcD X141 hx hZ hown (hw _ (List.mem_of_getElem? (i := 31) rfl)) (pc' := 232) rfl (hb hby at_229) ?_
      refine own_dcmp X141 hx (v := (0 : Int32)) (pc' := 233) rfl (hb hby at_232) (own_deq zh own_Zh rfl _) ?_
      refine own_ifF X141 hx (pc' := 236) rfl (hb hby at_233) (XT.i0_ne_f (by decide)) ?_
      refine own_iconst X141 hx (v := (1 : Int32)) (pc' := 237) rfl (hb hby at_236) rfl ?_
      refine own_goto X141 hx (pc' := 241) (hb hby at_237) (by decide) (by decide) ?_
      refine own_istore X141 hx (Ls' := #[.val (.int p1), .val (.int p2), .val (.int p3), .val (.int p4), .val (.int th), .val (.int cn), .val (.int cm), .val (.double (FP.ddiv (FP.i2d cn) (FP.i2d th))), .second, .val (.double (FP.ddiv (FP.i2d cm) (FP.i2d th))), .second, .val (.double (FP.ddiv (FP.i2d ((2 : Int32) * cn)) (FP.i2d ((2 : Int32) * th)))), .second, .val (.double (FP.ddiv (FP.i2d th) (FP.i2d ((2 : Int32) * th)))), .second, .val (.double (FP.ddiv (FP.i2d cn) (FP.i2d (th + (1 : Int32))))), .second, .val (.int (1 : Int32)), .val (.int (1 : Int32)), .val (.int (1 : Int32)), .val (.int (1 : Int32)), .val (.int (1 : Int32)), .unset, .unset]) (pc' := 243) rfl (hb hby at_241) rfl ?_
      refine own_iload X141 hx (pc' := 245) rfl (hb hby at_243) rfl ?_
      refine own_iload X141 hx (pc' := 247) rfl (hb hby at_245) rfl ?_
      refine own_icmpT X141 hx (pc' := 254) (hb hby at_247) (XT.ii_ge_t a2) (by decide) (by decide) ?_
      refine own_iconst X141 hx (v := (0 : Int32)) (pc' := 255) rfl (hb hby at_254) rfl ?_
      refine own_dload X141 hx (pc' := 257) rfl (hb hby at_255) rfl ?_
      refine own_dload X141 hx (pc' := 259) rfl (hb hby at_257) rfl ?_
      refine own_dcmp X141 hx (v := (0 : Int32)) (pc' := 260) rfl (hb hby at_259) (own_deq zs zs2 (by rw [a3]) _) ?_
      refine own_ifT X141 hx (pc' := 267) (hb hby at_260) (XT.i0_ge_t (by decide)) (by decide) (by decide) ?_
      refine own_iconst X141 hx (v := (0 : Int32)) (pc' := 268) rfl (hb hby at_267) rfl ?_
      refine own_icmpF X141 hx (pc' := 271) rfl (hb hby at_268) (XT.ii_ne_f (by decide)) ?_
      refine own_iload X141 hx (pc' := 273) rfl (hb hby at_271) rfl ?_
      refine own_iload X141 hx (pc' := 275) rfl (hb hby at_273) rfl ?_
      refine own_icmpF X141 hx (pc' := 278) rfl (hb hby at_275) (XT.ii_ne_f a3) ?_
      refine own_iconst X141 hx (v := (1 : Int32)) (pc' := 279) rfl (hb hby at_278) rfl ?_
      refine own_goto X141 hx (pc' := 283) (hb hby at_279) (by decide) (by decide) ?_
      refine own_dload X141 hx (pc' := 285) rfl (hb hby at_283) rfl ?_
      refine own_dload X141 hx (pc' := 287) rfl (hb hby at_285) rfl ?_
      refine own_dcmp X141 hx (v := (0 : Int32)) (pc' := 288) rfl (hb hby at_287) (own_deq zs zs2 (by rw [a3]) _) ?_
      refine own_ifF X141 hx (pc' := 291) rfl (hb hby at_288) (XT.i0_ne_f (by decide)) ?_
      refine own_iconst X141 hx (v := (1 : Int32)) (pc' := 292) rfl (hb hby at_291) rfl ?_
      refine own_goto X141 hx (pc' := 296) (hb hby at_292) (by decide) (by decide) ?_
      refine own_icmpF X141 hx (pc' := 299) rfl (hb hby at_296) (XT.ii_ne_f (by decide)) ?_
      refine own_iconst X141 hx (v := (1 : Int32)) (pc' := 300) rfl (hb hby at_299) rfl ?_
      refine own_goto X141 hx (pc' := 304) (hb hby at_300) (by decide) (by decide) ?_
      refine own_istore X141 hx (Ls' := #[.val (.int p1), .val (.int p2), .val (.int p3), .val (.int p4), .val (.int th), .val (.int cn), .val (.int cm), .val (.double (FP.ddiv (FP.i2d cn) (FP.i2d th))), .second, .val (.double (FP.ddiv (FP.i2d cm) (FP.i2d th))), .second, .val (.double (FP.ddiv (FP.i2d ((2 : Int32) * cn)) (FP.i2d ((2 : Int32) * th)))), .second, .val (.double (FP.ddiv (FP.i2d th) (FP.i2d ((2 : Int32) * th)))), .second, .val (.double (FP.ddiv (FP.i2d cn) (FP.i2d (th + (1 : Int32))))), .second, .val (.int (1 : Int32)), .val (.int (1 : Int32)), .val (.int (1 : Int32)), .val (.int (1 : Int32)), .val (.int (1 : Int32)), .val (.int (1 : Int32)), .unset]) (pc' := 306) rfl (hb hby at_304) rfl ?_
      refine own_dload X141 hx (pc' := 308) rfl (hb hby at_306) rfl ?_
      refine own_dload X141 hx (pc' := 310) rfl (hb hby at_308) rfl ?_
      refine own_dcmp X141 hx (v := (cmpValue (FP.dcmp (FP.ddiv (FP.i2d cn) (FP.i2d (th + (1 : Int32)))) (FP.ddiv (FP.i2d cn) (FP.i2d th))) .g)) (pc' := 311) rfl (hb hby at_310) rfl ?_
      refine own_ifF X141 hx (pc' := 314) rfl (hb hby at_311) (XT.i0_gt_f (own_dle zw zs (own_wide hcn.2 hth.1 hth.2) _)) ?_
      refine own_iconst X141 hx (v := (1 : Int32)) (pc' := 315) rfl (hb hby at_314) rfl ?_
      refine own_goto X141 hx (pc' := 319) (hb hby at_315) (by decide) (by decide) ?_
      refine own_istore X141 hx (Ls' := #[.val (.int p1), .val (.int p2), .val (.int p3), .val (.int p4), .val (.int th), .val (.int cn), .val (.int cm), .val (.double (FP.ddiv (FP.i2d cn) (FP.i2d th))), .second, .val (.double (FP.ddiv (FP.i2d cm) (FP.i2d th))), .second, .val (.double (FP.ddiv (FP.i2d ((2 : Int32) * cn)) (FP.i2d ((2 : Int32) * th)))), .second, .val (.double (FP.ddiv (FP.i2d th) (FP.i2d ((2 : Int32) * th)))), .second, .val (.double (FP.ddiv (FP.i2d cn) (FP.i2d (th + (1 : Int32))))), .second, .val (.int (1 : Int32)), .val (.int (1 : Int32)), .val (.int (1 : Int32)), .val (.int (1 : Int32)), .val (.int (1 : Int32)), .val (.int (1 : Int32)), .val (.int (1 : Int32))]) (pc' := 321) rfl (hb hby at_319) rfl ?_
      refine own_iload X141 hx (pc' := 323) rfl (hb hby at_321) rfl ?_
      refine own_ifF X141 hx (pc' := 326) rfl (hb hby at_323) (XT.i0_eq_f (by decide)) ?_
      refine own_iload X141 hx (pc' := 328) rfl (hb hby at_326) rfl ?_
      refine own_ifF X141 hx (pc' := 331) rfl (hb hby at_328) (XT.i0_eq_f (by decide)) ?_
      refine own_iload X141 hx (pc' := 333) rfl (hb hby at_331) rfl ?_
      refine own_ifF X141 hx (pc' := 336) rfl (hb hby at_333) (XT.i0_eq_f (by decide)) ?_
      refine own_iload X141 hx (pc' := 338) rfl (hb hby at_336) rfl ?_
      refine own_ifF X141 hx (pc' := 341) rfl (hb hby at_338) (XT.i0_eq_f (by decide)) ?_
      refine own_iload X141 hx (pc' := 343) rfl (hb hby at_341) rfl ?_
      refine own_ifF X141 hx (pc' := 346) rfl (hb hby at_343) (XT.i0_eq_f (by decide)) ?_
      refine own_iload X141 hx (pc' := 348) rfl (hb hby at_346) rfl ?_
      refine own_ifF X141 hx (pc' := 351) rfl (hb hby at_348) (XT.i0_eq_f (by decide)) ?_
      refine own_iload X141 hx (pc' := 353) rfl (hb hby at_351) rfl ?_
      refine own_ifF X141 hx (pc' := 356) rfl (hb hby at_353) (XT.i0_eq_f (by decide)) ?_
      refine own_iconst X141 hx (v := (1 : Int32)) (pc' := 357) rfl (hb hby at_356) rfl ?_
      refine own_goto X141 hx (pc' := 361) (hb hby at_357) (by decide) (by decide) ?_
      refine own_zret X141 hx hlk hret (by simp) (hb hby at_361) (by decide) (by decide) ?_
      rw [e141]
      exact ⟨rfl, M141⟩
    have a5 : cm < cn := by
      rw [Int32.lt_iff_toInt_lt] at a2 ⊢
      have : ¬ cn.toInt = cm.toInt := fun q => a3 (Int32.toInt_inj.mp q)
      omega
    refine own_dconst0 X141 hx (v := FP.dconst0) (pc' := 126) rfl (hb hby at_125) rfl ?_
    refine own_dload X141 hx (pc' := 128) rfl (hb hby at_126) rfl ?_
    refine own_dcmp X141 hx (v := (0 : Int32)) (pc' := 129) rfl (hb hby at_128) (own_deq own_Z0 zs (q1 a0) _) ?_
    refine own_ifF X141 hx (pc' := 132) rfl (hb hby at_129) (XT.i0_gt_f (by decide)) ?_
    refine own_dload X141 hx (pc' := 134) rfl (hb hby at_132) rfl ?_
    refine own_dconst1 X141 hx (v := FP.dconst1) (pc' := 135) rfl (hb hby at_134) rfl ?_
    refine own_dcmp X141 hx (v := (-1 : Int32)) (pc' := 136) rfl (hb hby at_135) (own_dlt zs own_Z1 (q4 a1) _) ?_
    refine own_ifF X141 hx (pc' := 139) rfl (hb hby at_136) (XT.i0_gt_f (by decide)) ?_
    refine own_iconst X141 hx (v := (1 : Int32)) (pc' := 140) rfl (hb hby at_139) rfl ?_
    refine own_goto X141 hx (pc' := 144) (hb hby at_140) (by decide) (by decide) ?_
    refine own_istore X141 hx (Ls' := #[.val (.int p1), .val (.int p2), .val (.int p3), .val (.int p4), .val (.int th), .val (.int cn), .val (.int cm), .val (.double (FP.ddiv (FP.i2d cn) (FP.i2d th))), .second, .val (.double (FP.ddiv (FP.i2d cm) (FP.i2d th))), .second, .val (.double (FP.ddiv (FP.i2d ((2 : Int32) * cn)) (FP.i2d ((2 : Int32) * th)))), .second, .val (.double (FP.ddiv (FP.i2d th) (FP.i2d ((2 : Int32) * th)))), .second, .val (.double (FP.ddiv (FP.i2d cn) (FP.i2d (th + (1 : Int32))))), .second, .val (.int (1 : Int32)), .unset, .unset, .unset, .unset, .unset, .unset]) (pc' := 146) rfl (hb hby at_144) rfl ?_
    refine own_dload X141 hx (pc' := 148) rfl (hb hby at_146) rfl ?_
    refine own_dconst0 X141 hx (v := FP.dconst0) (pc' := 149) rfl (hb hby at_148) rfl ?_
    refine own_dcmp X141 hx (v := (0 : Int32)) (pc' := 150) rfl (hb hby at_149) (own_deq zs own_Z0 (q1 a0).symm _) ?_
    refine own_ifF X141 hx (pc' := 153) rfl (hb hby at_150) (XT.i0_ne_f (by decide)) ?_
    refine own_iconst X141 hx (v := (1 : Int32)) (pc' := 154) rfl (hb hby at_153) rfl ?_
    refine own_goto X141 hx (pc' := 158) (hb hby at_154) (by decide) (by decide) ?_
    refine own_iload X141 hx (pc' := 160) rfl (hb hby at_158) rfl ?_
    refine own_ifF X141 hx (pc' := 163) rfl (hb hby at_160) (XT.i0_ne_f a0) ?_
    refine own_iconst X141 hx (v := (1 : Int32)) (pc' := 164) rfl (hb hby at_163) rfl ?_
    refine own_goto X141 hx (pc' := 168) (hb hby at_164) (by decide) (by decide) ?_
    refine own_icmpF X141 hx (pc' := 171) rfl (hb hby at_168) (XT.ii_ne_f (by decide)) ?_
    refine own_iconst X141 hx (v := (1 : Int32)) (pc' := 172) rfl (hb hby at_171) rfl ?_
    refine own_goto X141 hx (pc' := 176) (hb hby at_172) (by decide) (by decide) ?_
    refine own_istore X141 hx (Ls' := #[.val (.int p1), .val (.int p2), .val (.int p3), .val (.int p4), .val (.int th), .val (.int cn), .val (.int cm), .val (.double (FP.ddiv (FP.i2d cn) (FP.i2d th))), .second, .val (.double (FP.ddiv (FP.i2d cm) (FP.i2d th))), .second, .val (.double (FP.ddiv (FP.i2d ((2 : Int32) * cn)) (FP.i2d ((2 : Int32) * th)))), .second, .val (.double (FP.ddiv (FP.i2d th) (FP.i2d ((2 : Int32) * th)))), .second, .val (.double (FP.ddiv (FP.i2d cn) (FP.i2d (th + (1 : Int32))))), .second, .val (.int (1 : Int32)), .val (.int (1 : Int32)), .unset, .unset, .unset, .unset, .unset]) (pc' := 178) rfl (hb hby at_176) rfl ?_
    refine own_dload X141 hx (pc' := 180) rfl (hb hby at_178) rfl ?_
    refine own_dconst1 X141 hx (v := FP.dconst1) (pc' := 181) rfl (hb hby at_180) rfl ?_
    refine own_dcmp X141 hx (v := (-1 : Int32)) (pc' := 182) rfl (hb hby at_181) (own_dlt zs own_Z1 (q4 a1) _) ?_
    refine own_ifT X141 hx (pc' := 189) (hb hby at_182) (XT.i0_ne_t (by decide)) (by decide) (by decide) ?_
    refine own_iconst X141 hx (v := (0 : Int32)) (pc' := 190) rfl (hb hby at_189) rfl ?_
    refine own_iload X141 hx (pc' := 192) rfl (hb hby at_190) rfl ?_
    refine own_iload X141 hx (pc' := 194) rfl (hb hby at_192) rfl ?_
    refine own_icmpT X141 hx (pc' := 201) (hb hby at_194) (XT.ii_ne_t a1) (by decide) (by decide) ?_
    refine own_iconst X141 hx (v := (0 : Int32)) (pc' := 202) rfl (hb hby at_201) rfl ?_
    refine own_icmpF X141 hx (pc' := 205) rfl (hb hby at_202) (XT.ii_ne_f (by decide)) ?_
    refine own_iconst X141 hx (v := (1 : Int32)) (pc' := 206) rfl (hb hby at_205) rfl ?_
    refine own_goto X141 hx (pc' := 210) (hb hby at_206) (by decide) (by decide) ?_
    refine own_istore X141 hx (Ls' := #[.val (.int p1), .val (.int p2), .val (.int p3), .val (.int p4), .val (.int th), .val (.int cn), .val (.int cm), .val (.double (FP.ddiv (FP.i2d cn) (FP.i2d th))), .second, .val (.double (FP.ddiv (FP.i2d cm) (FP.i2d th))), .second, .val (.double (FP.ddiv (FP.i2d ((2 : Int32) * cn)) (FP.i2d ((2 : Int32) * th)))), .second, .val (.double (FP.ddiv (FP.i2d th) (FP.i2d ((2 : Int32) * th)))), .second, .val (.double (FP.ddiv (FP.i2d cn) (FP.i2d (th + (1 : Int32))))), .second, .val (.int (1 : Int32)), .val (.int (1 : Int32)), .val (.int (1 : Int32)), .unset, .unset, .unset, .unset]) (pc' := 212) rfl (hb hby at_210) rfl ?_
    refine own_dload X141 hx (pc' := 214) rfl (hb hby at_212) rfl ?_
    refine own_dload X141 hx (pc' := 216) rfl (hb hby at_214) rfl ?_
    refine own_dcmp X141 hx (v := (0 : Int32)) (pc' := 217) rfl (hb hby at_216) (own_deq zsc zs rfl _) ?_
    refine own_ifF X141 hx (pc' := 220) rfl (hb hby at_217) (XT.i0_ne_f (by decide)) ?_
    refine own_iconst X141 hx (v := (1 : Int32)) (pc' := 221) rfl (hb hby at_220) rfl ?_
    refine own_goto X141 hx (pc' := 225) (hb hby at_221) (by decide) (by decide) ?_
    refine own_istore X141 hx (Ls' := #[.val (.int p1), .val (.int p2), .val (.int p3), .val (.int p4), .val (.int th), .val (.int cn), .val (.int cm), .val (.double (FP.ddiv (FP.i2d cn) (FP.i2d th))), .second, .val (.double (FP.ddiv (FP.i2d cm) (FP.i2d th))), .second, .val (.double (FP.ddiv (FP.i2d ((2 : Int32) * cn)) (FP.i2d ((2 : Int32) * th)))), .second, .val (.double (FP.ddiv (FP.i2d th) (FP.i2d ((2 : Int32) * th)))), .second, .val (.double (FP.ddiv (FP.i2d cn) (FP.i2d (th + (1 : Int32))))), .second, .val (.int (1 : Int32)), .val (.int (1 : Int32)), .val (.int (1 : Int32)), .val (.int (1 : Int32)), .unset, .unset, .unset]) (pc' := 227) rfl (hb hby at_225) rfl ?_
    refine own_dload X141 hx (pc' := 229) rfl (hb hby at_227) rfl ?_
    refine own_ldcD X141 hx hZ hown (hw _ (List.mem_of_getElem? (i := 31) rfl)) (pc' := 232) rfl (hb hby at_229) ?_
    refine own_dcmp X141 hx (v := (0 : Int32)) (pc' := 233) rfl (hb hby at_232) (own_deq zh own_Zh rfl _) ?_
    refine own_ifF X141 hx (pc' := 236) rfl (hb hby at_233) (XT.i0_ne_f (by decide)) ?_
    refine own_iconst X141 hx (v := (1 : Int32)) (pc' := 237) rfl (hb hby at_236) rfl ?_
    refine own_goto X141 hx (pc' := 241) (hb hby at_237) (by decide) (by decide) ?_
    refine own_istore X141 hx (Ls' := #[.val (.int p1), .val (.int p2), .val (.int p3), .val (.int p4), .val (.int th), .val (.int cn), .val (.int cm), .val (.double (FP.ddiv (FP.i2d cn) (FP.i2d th))), .second, .val (.double (FP.ddiv (FP.i2d cm) (FP.i2d th))), .second, .val (.double (FP.ddiv (FP.i2d ((2 : Int32) * cn)) (FP.i2d ((2 : Int32) * th)))), .second, .val (.double (FP.ddiv (FP.i2d th) (FP.i2d ((2 : Int32) * th)))), .second, .val (.double (FP.ddiv (FP.i2d cn) (FP.i2d (th + (1 : Int32))))), .second, .val (.int (1 : Int32)), .val (.int (1 : Int32)), .val (.int (1 : Int32)), .val (.int (1 : Int32)), .val (.int (1 : Int32)), .unset, .unset]) (pc' := 243) rfl (hb hby at_241) rfl ?_
    refine own_iload X141 hx (pc' := 245) rfl (hb hby at_243) rfl ?_
    refine own_iload X141 hx (pc' := 247) rfl (hb hby at_245) rfl ?_
    refine own_icmpT X141 hx (pc' := 254) (hb hby at_247) (XT.ii_ge_t a2) (by decide) (by decide) ?_
    refine own_iconst X141 hx (v := (0 : Int32)) (pc' := 255) rfl (hb hby at_254) rfl ?_
    refine own_dload X141 hx (pc' := 257) rfl (hb hby at_255) rfl ?_
    refine own_dload X141 hx (pc' := 259) rfl (hb hby at_257) rfl ?_
    refine own_dcmp X141 hx (v := (1 : Int32)) (pc' := 260) rfl (hb hby at_259) (own_dgt zs zs2 (own_incr hcm.1 hcn.2 hth.1 a5) _) ?_
    refine own_ifT X141 hx (pc' := 267) (hb hby at_260) (XT.i0_ge_t (by decide)) (by decide) (by decide) ?_
    refine own_iconst X141 hx (v := (0 : Int32)) (pc' := 268) rfl (hb hby at_267) rfl ?_
    refine own_icmpF X141 hx (pc' := 271) rfl (hb hby at_268) (XT.ii_ne_f (by decide)) ?_
    refine own_iload X141 hx (pc' := 273) rfl (hb hby at_271) rfl ?_
    refine own_iload X141 hx (pc' := 275) rfl (hb hby at_273) rfl ?_
    refine own_icmpT X141 hx (pc' := 282) (hb hby at_275) (XT.ii_ne_t a3) (by decide) (by decide) ?_
    refine own_iconst X141 hx (v := (0 : Int32)) (pc' := 283) rfl (hb hby at_282) rfl ?_
    refine own_dload X141 hx (pc' := 285) rfl (hb hby at_283) rfl ?_
    refine own_dload X141 hx (pc' := 287) rfl (hb hby at_285) rfl ?_
    refine own_dcmp X141 hx (v := (1 : Int32)) (pc' := 288) rfl (hb hby at_287) (own_dgt zs zs2 (own_incr hcm.1 hcn.2 hth.1 a5) _) ?_
    refine own_ifT X141 hx (pc' := 295) (hb hby at_288) (XT.i0_ne_t (by decide)) (by decide) (by decide) ?_
    refine own_iconst X141 hx (v := (0 : Int32)) (pc' := 296) rfl (hb hby at_295) rfl ?_
    refine own_icmpF X141 hx (pc' := 299) rfl (hb hby at_296) (XT.ii_ne_f (by decide)) ?_
    refine own_iconst X141 hx (v := (1 : Int32)) (pc' := 300) rfl (hb hby at_299) rfl ?_
    refine own_goto X141 hx (pc' := 304) (hb hby at_300) (by decide) (by decide) ?_
    refine own_istore X141 hx (Ls' := #[.val (.int p1), .val (.int p2), .val (.int p3), .val (.int p4), .val (.int th), .val (.int cn), .val (.int cm), .val (.double (FP.ddiv (FP.i2d cn) (FP.i2d th))), .second, .val (.double (FP.ddiv (FP.i2d cm) (FP.i2d th))), .second, .val (.double (FP.ddiv (FP.i2d ((2 : Int32) * cn)) (FP.i2d ((2 : Int32) * th)))), .second, .val (.double (FP.ddiv (FP.i2d th) (FP.i2d ((2 : Int32) * th)))), .second, .val (.double (FP.ddiv (FP.i2d cn) (FP.i2d (th + (1 : Int32))))), .second, .val (.int (1 : Int32)), .val (.int (1 : Int32)), .val (.int (1 : Int32)), .val (.int (1 : Int32)), .val (.int (1 : Int32)), .val (.int (1 : Int32)), .unset]) (pc' := 306) rfl (hb hby at_304) rfl ?_
    refine own_dload X141 hx (pc' := 308) rfl (hb hby at_306) rfl ?_
    refine own_dload X141 hx (pc' := 310) rfl (hb hby at_308) rfl ?_
    refine own_dcmp X141 hx (v := (cmpValue (FP.dcmp (FP.ddiv (FP.i2d cn) (FP.i2d (th + (1 : Int32)))) (FP.ddiv (FP.i2d cn) (FP.i2d th))) .g)) (pc' := 311) rfl (hb hby at_310) rfl ?_
    refine own_ifF X141 hx (pc' := 314) rfl (hb hby at_311) (XT.i0_gt_f (own_dle zw zs (own_wide hcn.2 hth.1 hth.2) _)) ?_
    refine own_iconst X141 hx (v := (1 : Int32)) (pc' := 315) rfl (hb hby at_314) rfl ?_
    refine own_goto X141 hx (pc' := 319) (hb hby at_315) (by decide) (by decide) ?_
    refine own_istore X141 hx (Ls' := #[.val (.int p1), .val (.int p2), .val (.int p3), .val (.int p4), .val (.int th), .val (.int cn), .val (.int cm), .val (.double (FP.ddiv (FP.i2d cn) (FP.i2d th))), .second, .val (.double (FP.ddiv (FP.i2d cm) (FP.i2d th))), .second, .val (.double (FP.ddiv (FP.i2d ((2 : Int32) * cn)) (FP.i2d ((2 : Int32) * th)))), .second, .val (.double (FP.ddiv (FP.i2d th) (FP.i2d ((2 : Int32) * th)))), .second, .val (.double (FP.ddiv (FP.i2d cn) (FP.i2d (th + (1 : Int32))))), .second, .val (.int (1 : Int32)), .val (.int (1 : Int32)), .val (.int (1 : Int32)), .val (.int (1 : Int32)), .val (.int (1 : Int32)), .val (.int (1 : Int32)), .val (.int (1 : Int32))]) (pc' := 321) rfl (hb hby at_319) rfl ?_
    refine own_iload X141 hx (pc' := 323) rfl (hb hby at_321) rfl ?_
    refine own_ifF X141 hx (pc' := 326) rfl (hb hby at_323) (XT.i0_eq_f (by decide)) ?_
    refine own_iload X141 hx (pc' := 328) rfl (hb hby at_326) rfl ?_
    refine own_ifF X141 hx (pc' := 331) rfl (hb hby at_328) (XT.i0_eq_f (by decide)) ?_
    refine own_iload X141 hx (pc' := 333) rfl (hb hby at_331) rfl ?_
    refine own_ifF X141 hx (pc' := 336) rfl (hb hby at_333) (XT.i0_eq_f (by decide)) ?_
    refine own_iload X141 hx (pc' := 338) rfl (hb hby at_336) rfl ?_
    refine own_ifF X141 hx (pc' := 341) rfl (hb hby at_338) (XT.i0_eq_f (by decide)) ?_
    refine own_iload X141 hx (pc' := 343) rfl (hb hby at_341) rfl ?_
    refine own_ifF X141 hx (pc' := 346) rfl (hb hby at_343) (XT.i0_eq_f (by decide)) ?_
    refine own_iload X141 hx (pc' := 348) rfl (hb hby at_346) rfl ?_
    refine own_ifF X141 hx (pc' := 351) rfl (hb hby at_348) (XT.i0_eq_f (by decide)) ?_
    refine own_iload X141 hx (pc' := 353) rfl (hb hby at_351) rfl ?_
    refine own_ifF X141 hx (pc' := 356) rfl (hb hby at_353) (XT.i0_eq_f (by decide)) ?_
    refine own_iconst X141 hx (v := (1 : Int32)) (pc' := 357) rfl (hb hby at_356) rfl ?_
    refine own_goto X141 hx (pc' := 361) (hb hby at_357) (by decide) (by decide) ?_
    refine own_zret X141 hx hlk hret (by simp) (hb hby at_361) (by decide) (by decide) ?_
    rw [e141]
    exact ⟨rfl, M141⟩
  by_cases a1 : cn = th
  · have a6 := a1
    by_cases a2 : cn < cm
    · have a3 : ¬ cn = cm := fun q => by rw [q] at a2; exact absurd a2 (by rw [Int32.lt_iff_toInt_lt]; omega)
      refine own_dconst0 X141 hx (v := FP.dconst0) (pc' := 126) rfl (hb hby at_125) rfl ?_
      refine own_dload X141 hx (pc' := 128) rfl (hb hby at_126) rfl ?_
      refine own_dcmp X141 hx (v := (-1 : Int32)) (pc' := 129) rfl (hb hby at_128) (own_dlt own_Z0 zs (q2 a0) _) ?_
      refine own_ifF X141 hx (pc' := 132) rfl (hb hby at_129) (XT.i0_gt_f (by decide)) ?_
      refine own_dload X141 hx (pc' := 134) rfl (hb hby at_132) rfl ?_
      refine own_dconst1 X141 hx (v := FP.dconst1) (pc' := 135) rfl (hb hby at_134) rfl ?_
      refine own_dcmp X141 hx (v := (0 : Int32)) (pc' := 136) rfl (hb hby at_135) (own_deq zs own_Z1 (q3 a1) _) ?_
      refine own_ifF X141 hx (pc' := 139) rfl (hb hby at_136) (XT.i0_gt_f (by decide)) ?_
      refine own_iconst X141 hx (v := (1 : Int32)) (pc' := 140) rfl (hb hby at_139) rfl ?_
      refine own_goto X141 hx (pc' := 144) (hb hby at_140) (by decide) (by decide) ?_
      refine own_istore X141 hx (Ls' := #[.val (.int p1), .val (.int p2), .val (.int p3), .val (.int p4), .val (.int th), .val (.int cn), .val (.int cm), .val (.double (FP.ddiv (FP.i2d cn) (FP.i2d th))), .second, .val (.double (FP.ddiv (FP.i2d cm) (FP.i2d th))), .second, .val (.double (FP.ddiv (FP.i2d ((2 : Int32) * cn)) (FP.i2d ((2 : Int32) * th)))), .second, .val (.double (FP.ddiv (FP.i2d th) (FP.i2d ((2 : Int32) * th)))), .second, .val (.double (FP.ddiv (FP.i2d cn) (FP.i2d (th + (1 : Int32))))), .second, .val (.int (1 : Int32)), .unset, .unset, .unset, .unset, .unset, .unset]) (pc' := 146) rfl (hb hby at_144) rfl ?_
      refine own_dload X141 hx (pc' := 148) rfl (hb hby at_146) rfl ?_
      refine own_dconst0 X141 hx (v := FP.dconst0) (pc' := 149) rfl (hb hby at_148) rfl ?_
      refine own_dcmp X141 hx (v := (1 : Int32)) (pc' := 150) rfl (hb hby at_149) (own_dgt zs own_Z0 (q2 a0) _) ?_
      refine own_ifT X141 hx (pc' := 157) (hb hby at_150) (XT.i0_ne_t (by decide)) (by decide) (by decide) ?_
      refine own_iconst X141 hx (v := (0 : Int32)) (pc' := 158) rfl (hb hby at_157) rfl ?_
      refine own_iload X141 hx (pc' := 160) rfl (hb hby at_158) rfl ?_
      refine own_ifT X141 hx (pc' := 167) (hb hby at_160) (XT.i0_ne_t a0) (by decide) (by decide) ?_
      refine own_iconst X141 hx (v := (0 : Int32)) (pc' := 168) rfl (hb hby at_167) rfl ?_
      refine own_icmpF X141 hx (pc' := 171) rfl (hb hby at_168) (XT.ii_ne_f (by decide)) ?_
      refine own_iconst X141 hx (v := (1 : Int32)) (pc' := 172) rfl (hb hby at_171) rfl ?_
      refine own_goto X141 hx (pc' := 176) (hb hby at_172) (by decide) (by decide) ?_
      refine own_istore X141 hx (Ls' := #[.val (.int p1), .val (.int p2), .val (.int p3), .val (.int p4), .val (.int th), .val (.int cn), .val (.int cm), .val (.double (FP.ddiv (FP.i2d cn) (FP.i2d th))), .second, .val (.double (FP.ddiv (FP.i2d cm) (FP.i2d th))), .second, .val (.double (FP.ddiv (FP.i2d ((2 : Int32) * cn)) (FP.i2d ((2 : Int32) * th)))), .second, .val (.double (FP.ddiv (FP.i2d th) (FP.i2d ((2 : Int32) * th)))), .second, .val (.double (FP.ddiv (FP.i2d cn) (FP.i2d (th + (1 : Int32))))), .second, .val (.int (1 : Int32)), .val (.int (1 : Int32)), .unset, .unset, .unset, .unset, .unset]) (pc' := 178) rfl (hb hby at_176) rfl ?_
      refine own_dload X141 hx (pc' := 180) rfl (hb hby at_178) rfl ?_
      refine own_dconst1 X141 hx (v := FP.dconst1) (pc' := 181) rfl (hb hby at_180) rfl ?_
      refine own_dcmp X141 hx (v := (0 : Int32)) (pc' := 182) rfl (hb hby at_181) (own_deq zs own_Z1 (q3 a1) _) ?_
      refine own_ifF X141 hx (pc' := 185) rfl (hb hby at_182) (XT.i0_ne_f (by decide)) ?_
      refine own_iconst X141 hx (v := (1 : Int32)) (pc' := 186) rfl (hb hby at_185) rfl ?_
      refine own_goto X141 hx (pc' := 190) (hb hby at_186) (by decide) (by decide) ?_
      refine own_iload X141 hx (pc' := 192) rfl (hb hby at_190) rfl ?_
      refine own_iload X141 hx (pc' := 194) rfl (hb hby at_192) rfl ?_
      refine own_icmpF X141 hx (pc' := 197) rfl (hb hby at_194) (XT.ii_ne_f a1) ?_
      refine own_iconst X141 hx (v := (1 : Int32)) (pc' := 198) rfl (hb hby at_197) rfl ?_
      refine own_goto X141 hx (pc' := 202) (hb hby at_198) (by decide) (by decide) ?_
      refine own_icmpF X141 hx (pc' := 205) rfl (hb hby at_202) (XT.ii_ne_f (by decide)) ?_
      refine own_iconst X141 hx (v := (1 : Int32)) (pc' := 206) rfl (hb hby at_205) rfl ?_
      refine own_goto X141 hx (pc' := 210) (hb hby at_206) (by decide) (by decide) ?_
      refine own_istore X141 hx (Ls' := #[.val (.int p1), .val (.int p2), .val (.int p3), .val (.int p4), .val (.int th), .val (.int cn), .val (.int cm), .val (.double (FP.ddiv (FP.i2d cn) (FP.i2d th))), .second, .val (.double (FP.ddiv (FP.i2d cm) (FP.i2d th))), .second, .val (.double (FP.ddiv (FP.i2d ((2 : Int32) * cn)) (FP.i2d ((2 : Int32) * th)))), .second, .val (.double (FP.ddiv (FP.i2d th) (FP.i2d ((2 : Int32) * th)))), .second, .val (.double (FP.ddiv (FP.i2d cn) (FP.i2d (th + (1 : Int32))))), .second, .val (.int (1 : Int32)), .val (.int (1 : Int32)), .val (.int (1 : Int32)), .unset, .unset, .unset, .unset]) (pc' := 212) rfl (hb hby at_210) rfl ?_
      refine own_dload X141 hx (pc' := 214) rfl (hb hby at_212) rfl ?_
      refine own_dload X141 hx (pc' := 216) rfl (hb hby at_214) rfl ?_
      refine own_dcmp X141 hx (v := (0 : Int32)) (pc' := 217) rfl (hb hby at_216) (own_deq zsc zs rfl _) ?_
      refine own_ifF X141 hx (pc' := 220) rfl (hb hby at_217) (XT.i0_ne_f (by decide)) ?_
      refine own_iconst X141 hx (v := (1 : Int32)) (pc' := 221) rfl (hb hby at_220) rfl ?_
      refine own_goto X141 hx (pc' := 225) (hb hby at_221) (by decide) (by decide) ?_
      refine own_istore X141 hx (Ls' := #[.val (.int p1), .val (.int p2), .val (.int p3), .val (.int p4), .val (.int th), .val (.int cn), .val (.int cm), .val (.double (FP.ddiv (FP.i2d cn) (FP.i2d th))), .second, .val (.double (FP.ddiv (FP.i2d cm) (FP.i2d th))), .second, .val (.double (FP.ddiv (FP.i2d ((2 : Int32) * cn)) (FP.i2d ((2 : Int32) * th)))), .second, .val (.double (FP.ddiv (FP.i2d th) (FP.i2d ((2 : Int32) * th)))), .second, .val (.double (FP.ddiv (FP.i2d cn) (FP.i2d (th + (1 : Int32))))), .second, .val (.int (1 : Int32)), .val (.int (1 : Int32)), .val (.int (1 : Int32)), .val (.int (1 : Int32)), .unset, .unset, .unset]) (pc' := 227) rfl (hb hby at_225) rfl ?_
      refine own_dload X141 hx (pc' := 229) rfl (hb hby at_227) rfl ?_
      refine own_ldcD X141 hx hZ hown (hw _ (List.mem_of_getElem? (i := 31) rfl)) (pc' := 232) rfl (hb hby at_229) ?_
      refine own_dcmp X141 hx (v := (0 : Int32)) (pc' := 233) rfl (hb hby at_232) (own_deq zh own_Zh rfl _) ?_
      refine own_ifF X141 hx (pc' := 236) rfl (hb hby at_233) (XT.i0_ne_f (by decide)) ?_
      refine own_iconst X141 hx (v := (1 : Int32)) (pc' := 237) rfl (hb hby at_236) rfl ?_
      refine own_goto X141 hx (pc' := 241) (hb hby at_237) (by decide) (by decide) ?_
      refine own_istore X141 hx (Ls' := #[.val (.int p1), .val (.int p2), .val (.int p3), .val (.int p4), .val (.int th), .val (.int cn), .val (.int cm), .val (.double (FP.ddiv (FP.i2d cn) (FP.i2d th))), .second, .val (.double (FP.ddiv (FP.i2d cm) (FP.i2d th))), .second, .val (.double (FP.ddiv (FP.i2d ((2 : Int32) * cn)) (FP.i2d ((2 : Int32) * th)))), .second, .val (.double (FP.ddiv (FP.i2d th) (FP.i2d ((2 : Int32) * th)))), .second, .val (.double (FP.ddiv (FP.i2d cn) (FP.i2d (th + (1 : Int32))))), .second, .val (.int (1 : Int32)), .val (.int (1 : Int32)), .val (.int (1 : Int32)), .val (.int (1 : Int32)), .val (.int (1 : Int32)), .unset, .unset]) (pc' := 243) rfl (hb hby at_241) rfl ?_
      refine own_iload X141 hx (pc' := 245) rfl (hb hby at_243) rfl ?_
      refine own_iload X141 hx (pc' := 247) rfl (hb hby at_245) rfl ?_
      refine own_icmpF X141 hx (pc' := 250) rfl (hb hby at_247) (XT.ii_ge_f a2) ?_
      refine own_iconst X141 hx (v := (1 : Int32)) (pc' := 251) rfl (hb hby at_250) rfl ?_
      refine own_goto X141 hx (pc' := 255) (hb hby at_251) (by decide) (by decide) ?_
      refine own_dload X141 hx (pc' := 257) rfl (hb hby at_255) rfl ?_
      refine own_dload X141 hx (pc' := 259) rfl (hb hby at_257) rfl ?_
      refine own_dcmp X141 hx (v := (-1 : Int32)) (pc' := 260) rfl (hb hby at_259) (own_dlt zs zs2 (own_incr hcn.1 hcm.2 hth.1 a2) _) ?_
      refine own_ifF X141 hx (pc' := 263) rfl (hb hby at_260) (XT.i0_ge_f (by decide)) ?_
      refine own_iconst X141 hx (v := (1 : Int32)) (pc' := 264) rfl (hb hby at_263) rfl ?_
      refine own_goto X141 hx (pc' := 268) (hb hby at_264) (by decide) (by decide) ?_
      refine own_icmpF X141 hx (pc' := 271) rfl (hb hby at_268) (XT.ii_ne_f (by decide)) ?_
      refine own_iload X141 hx (pc' := 273) rfl (hb hby at_271) rfl ?_
      refine own_iload X141 hx (pc' := 275) rfl (hb hby at_273) rfl ?_
      refine own_icmpT X141 hx (pc' := 282) (hb hby at_275) (XT.ii_ne_t a3) (by decide) (by decide) ?_
      refine own_iconst X141 hx (v := (0 : Int32)) (pc' := 283) rfl (hb hby at_282) rfl ?_
      refine own_dload X141 hx (pc' := 285) rfl (hb hby at_283) rfl ?_
      refine own_dload X141 hx (pc' := 287) rfl (hb hby at_285) rfl ?_
      refine own_dcmp X141 hx (v := (-1 : Int32)) (pc' := 288) rfl (hb hby at_287) (own_dlt zs zs2 (own_incr hcn.1 hcm.2 hth.1 a2) _) ?_
      refine own_ifT X141 hx (pc' := 295) (hb hby at_288) (XT.i0_ne_t (by decide)) (by decide) (by decide) ?_
      refine own_iconst X141 hx (v := (0 : Int32)) (pc' := 296) rfl (hb hby at_295) rfl ?_
      refine own_icmpF X141 hx (pc' := 299) rfl (hb hby at_296) (XT.ii_ne_f (by decide)) ?_
      refine own_iconst X141 hx (v := (1 : Int32)) (pc' := 300) rfl (hb hby at_299) rfl ?_
      refine own_goto X141 hx (pc' := 304) (hb hby at_300) (by decide) (by decide) ?_
      refine own_istore X141 hx (Ls' := #[.val (.int p1), .val (.int p2), .val (.int p3), .val (.int p4), .val (.int th), .val (.int cn), .val (.int cm), .val (.double (FP.ddiv (FP.i2d cn) (FP.i2d th))), .second, .val (.double (FP.ddiv (FP.i2d cm) (FP.i2d th))), .second, .val (.double (FP.ddiv (FP.i2d ((2 : Int32) * cn)) (FP.i2d ((2 : Int32) * th)))), .second, .val (.double (FP.ddiv (FP.i2d th) (FP.i2d ((2 : Int32) * th)))), .second, .val (.double (FP.ddiv (FP.i2d cn) (FP.i2d (th + (1 : Int32))))), .second, .val (.int (1 : Int32)), .val (.int (1 : Int32)), .val (.int (1 : Int32)), .val (.int (1 : Int32)), .val (.int (1 : Int32)), .val (.int (1 : Int32)), .unset]) (pc' := 306) rfl (hb hby at_304) rfl ?_
      refine own_dload X141 hx (pc' := 308) rfl (hb hby at_306) rfl ?_
      refine own_dload X141 hx (pc' := 310) rfl (hb hby at_308) rfl ?_
      refine own_dcmp X141 hx (v := (cmpValue (FP.dcmp (FP.ddiv (FP.i2d cn) (FP.i2d (th + (1 : Int32)))) (FP.ddiv (FP.i2d cn) (FP.i2d th))) .g)) (pc' := 311) rfl (hb hby at_310) rfl ?_
      refine own_ifF X141 hx (pc' := 314) rfl (hb hby at_311) (XT.i0_gt_f (own_dle zw zs (own_wide hcn.2 hth.1 hth.2) _)) ?_
      refine own_iconst X141 hx (v := (1 : Int32)) (pc' := 315) rfl (hb hby at_314) rfl ?_
      refine own_goto X141 hx (pc' := 319) (hb hby at_315) (by decide) (by decide) ?_
      refine own_istore X141 hx (Ls' := #[.val (.int p1), .val (.int p2), .val (.int p3), .val (.int p4), .val (.int th), .val (.int cn), .val (.int cm), .val (.double (FP.ddiv (FP.i2d cn) (FP.i2d th))), .second, .val (.double (FP.ddiv (FP.i2d cm) (FP.i2d th))), .second, .val (.double (FP.ddiv (FP.i2d ((2 : Int32) * cn)) (FP.i2d ((2 : Int32) * th)))), .second, .val (.double (FP.ddiv (FP.i2d th) (FP.i2d ((2 : Int32) * th)))), .second, .val (.double (FP.ddiv (FP.i2d cn) (FP.i2d (th + (1 : Int32))))), .second, .val (.int (1 : Int32)), .val (.int (1 : Int32)), .val (.int (1 : Int32)), .val (.int (1 : Int32)), .val (.int (1 : Int32)), .val (.int (1 : Int32)), .val (.int (1 : Int32))]) (pc' := 321) rfl (hb hby at_319) rfl ?_
      refine own_iload X141 hx (pc' := 323) rfl (hb hby at_321) rfl ?_
      refine own_ifF X141 hx (pc' := 326) rfl (hb hby at_323) (XT.i0_eq_f (by decide)) ?_
      refine own_iload X141 hx (pc' := 328) rfl (hb hby at_326) rfl ?_
      refine own_ifF X141 hx (pc' := 331) rfl (hb hby at_328) (XT.i0_eq_f (by decide)) ?_
      refine own_iload X141 hx (pc' := 333) rfl (hb hby at_331) rfl ?_
      refine own_ifF X141 hx (pc' := 336) rfl (hb hby at_333) (XT.i0_eq_f (by decide)) ?_
      refine own_iload X141 hx (pc' := 338) rfl (hb hby at_336) rfl ?_
      refine own_ifF X141 hx (pc' := 341) rfl (hb hby at_338) (XT.i0_eq_f (by decide)) ?_
      refine own_iload X141 hx (pc' := 343) rfl (hb hby at_341) rfl ?_
      refine own_ifF X141 hx (pc' := 346) rfl (hb hby at_343) (XT.i0_eq_f (by decide)) ?_
      refine own_iload X141 hx (pc' := 348) rfl (hb hby at_346) rfl ?_
      refine own_ifF X141 hx (pc' := 351) rfl (hb hby at_348) (XT.i0_eq_f (by decide)) ?_
      refine own_iload X141 hx (pc' := 353) rfl (hb hby at_351) rfl ?_
      refine own_ifF X141 hx (pc' := 356) rfl (hb hby at_353) (XT.i0_eq_f (by decide)) ?_
      refine own_iconst X141 hx (v := (1 : Int32)) (pc' := 357) rfl (hb hby at_356) rfl ?_
      refine own_goto X141 hx (pc' := 361) (hb hby at_357) (by decide) (by decide) ?_
      refine own_zret X141 hx hlk hret (by simp) (hb hby at_361) (by decide) (by decide) ?_
      rw [e141]
      exact ⟨rfl, M141⟩
    by_cases a3 : cn = cm
    · have a4 := a3
      refine own_dconst0 X141 hx (v := FP.dconst0) (pc' := 126) rfl (hb hby at_125) rfl ?_
      refine own_dload X141 hx (pc' := 128) rfl (hb hby at_126) rfl ?_
      refine own_dcmp X141 hx (v := (-1 : Int32)) (pc' := 129) rfl (hb hby at_128) (own_dlt own_Z0 zs (q2 a0) _) ?_
      refine own_ifF X141 hx (pc' := 132) rfl (hb hby at_129) (XT.i0_gt_f (by decide)) ?_
      refine own_dload X141 hx (pc' := 134) rfl (hb hby at_132) rfl ?_
      refine own_dconst1 X141 hx (v := FP.dconst1) (pc' := 135) rfl (hb hby at_134) rfl ?_
      refine own_dcmp X141 hx (v := (0 : Int32)) (pc' := 136) rfl (hb hby at_135) (own_deq zs own_Z1 (q3 a1) _) ?_
      refine own_ifF X141 hx (pc' := 139) rfl (hb hby at_136) (XT.i0_gt_f (by decide)) ?_
      refine own_iconst X141 hx (v := (1 : Int32)) (pc' := 140) rfl (hb hby at_139) rfl ?_
      refine own_goto X141 hx (pc' := 144) (hb hby at_140) (by decide) (by decide) ?_
      refine own_istore X141 hx (Ls' := #[.val (.int p1), .val (.int p2), .val (.int p3), .val (.int p4), .val (.int th), .val (.int cn), .val (.int cm), .val (.double (FP.ddiv (FP.i2d cn) (FP.i2d th))), .second, .val (.double (FP.ddiv (FP.i2d cm) (FP.i2d th))), .second, .val (.double (FP.ddiv (FP.i2d ((2 : Int32) * cn)) (FP.i2d ((2 : Int32) * th)))), .second, .val (.double (FP.ddiv (FP.i2d th) (FP.i2d ((2 : Int32) * th)))), .second, .val (.double (FP.ddiv (FP.i2d cn) (FP.i2d (th + (1 : Int32))))), .second, .val (.int (1 : Int32)), .unset, .unset, .unset, .unset, .unset, .unset]) (pc' := 146) rfl (hb hby at_144) rfl ?_
      refine own_dload X141 hx (pc' := 148) rfl (hb hby at_146) rfl ?_
      refine own_dconst0 X141 hx (v := FP.dconst0) (pc' := 149) rfl (hb hby at_148) rfl ?_
      refine own_dcmp X141 hx (v := (1 : Int32)) (pc' := 150) rfl (hb hby at_149) (own_dgt zs own_Z0 (q2 a0) _) ?_
      refine own_ifT X141 hx (pc' := 157) (hb hby at_150) (XT.i0_ne_t (by decide)) (by decide) (by decide) ?_
      refine own_iconst X141 hx (v := (0 : Int32)) (pc' := 158) rfl (hb hby at_157) rfl ?_
      refine own_iload X141 hx (pc' := 160) rfl (hb hby at_158) rfl ?_
      refine own_ifT X141 hx (pc' := 167) (hb hby at_160) (XT.i0_ne_t a0) (by decide) (by decide) ?_
      refine own_iconst X141 hx (v := (0 : Int32)) (pc' := 168) rfl (hb hby at_167) rfl ?_
      refine own_icmpF X141 hx (pc' := 171) rfl (hb hby at_168) (XT.ii_ne_f (by decide)) ?_
      refine own_iconst X141 hx (v := (1 : Int32)) (pc' := 172) rfl (hb hby at_171) rfl ?_
      refine own_goto X141 hx (pc' := 176) (hb hby at_172) (by decide) (by decide) ?_
      refine own_istore X141 hx (Ls' := #[.val (.int p1), .val (.int p2), .val (.int p3), .val (.int p4), .val (.int th), .val (.int cn), .val (.int cm), .val (.double (FP.ddiv (FP.i2d cn) (FP.i2d th))), .second, .val (.double (FP.ddiv (FP.i2d cm) (FP.i2d th))), .second, .val (.double (FP.ddiv (FP.i2d ((2 : Int32) * cn)) (FP.i2d ((2 : Int32) * th)))), .second, .val (.double (FP.ddiv (FP.i2d th) (FP.i2d ((2 : Int32) * th)))), .second, .val (.double (FP.ddiv (FP.i2d cn) (FP.i2d (th + (1 : Int32))))), .second, .val (.int (1 : Int32)), .val (.int (1 : Int32)), .unset, .unset, .unset, .unset, .unset]) (pc' := 178) rfl (hb hby at_176) rfl ?_
      refine own_dload X141 hx (pc' := 180) rfl (hb hby at_178) rfl ?_
      refine own_dconst1 X141 hx (v := FP.dconst1) (pc' := 181) rfl (hb hby at_180) rfl ?_
      refine own_dcmp X141 hx (v := (0 : Int32)) (pc' := 182) rfl (hb hby at_181) (own_deq zs own_Z1 (q3 a1) _) ?_
      refine own_ifF X141 hx (pc' := 185) rfl (hb hby at_182) (XT.i0_ne_f (by decide)) ?_
      refine own_iconst X141 hx (v := (1 : Int32)) (pc' := 186) rfl (hb hby at_185) rfl ?_
      refine own_goto X141 hx (pc' := 190) (hb hby at_186) (by decide) (by decide) ?_
      refine own_iload X141 hx (pc' := 192) rfl (hb hby at_190) rfl ?_
      refine own_iload X141 hx (pc' := 194) rfl (hb hby at_192) rfl ?_
      refine own_icmpF X141 hx (pc' := 197) rfl (hb hby at_194) (XT.ii_ne_f a1) ?_
      refine own_iconst X141 hx (v := (1 : Int32)) (pc' := 198) rfl (hb hby at_197) rfl ?_
      refine own_goto X141 hx (pc' := 202) (hb hby at_198) (by decide) (by decide) ?_
      refine own_icmpF X141 hx (pc' := 205) rfl (hb hby at_202) (XT.ii_ne_f (by decide)) ?_
      refine own_iconst X141 hx (v := (1 : Int32)) (pc' := 206) rfl (hb hby at_205) rfl ?_
      refine own_goto X141 hx (pc' := 210) (hb hby at_206) (by decide) (by decide) ?_
      refine own_istore X141 hx (Ls' := #[.val (.int p1), .val (.int p2), .val (.int p3), .val (.int p4), .val (.int th), .val (.int cn), .val (.int cm), .val (.double (FP.ddiv (FP.i2d cn) (FP.i2d th))), .second, .val (.double (FP.ddiv (FP.i2d cm) (FP.i2d th))), .second, .val (.double (FP.ddiv (FP.i2d ((2 : Int32) * cn)) (FP.i2d ((2 : Int32) * th)))), .second, .val (.double (FP.ddiv (FP.i2d th) (FP.i2d ((2 : Int32) * th)))), .second, .val (.double (FP.ddiv (FP.i2d cn) (FP.i2d (th + (1 : Int32))))), .second, .val (.int (1 : Int32)), .val (.int (1 : Int32)), .val (.int (1 : Int32)), .unset, .unset, .unset, .unset]) (pc' := 212) rfl (hb hby at_210) rfl ?_
      refine own_dload X141 hx (pc' := 214) rfl (hb hby at_212) rfl ?_
      refine own_dload X141 hx (pc' := 216) rfl (hb hby at_214) rfl ?_
      refine own_dcmp X141 hx (v := (0 : Int32)) (pc' := 217) rfl (hb hby at_216) (own_deq zsc zs rfl _) ?_
      refine own_ifF X141 hx (pc' := 220) rfl (hb hby at_217) (XT.i0_ne_f (by decide)) ?_
      refine own_iconst X141 hx (v := (1 : Int32)) (pc' := 221) rfl (hb hby at_220) rfl ?_
      refine own_goto X141 hx (pc' := 225) (hb hby at_221) (by decide) (by decide) ?_
      refine own_istore X141 hx (Ls' := #[.val (.int p1), .val (.int p2), .val (.int p3), .val (.int p4), .val (.int th), .val (.int cn), .val (.int cm), .val (.double (FP.ddiv (FP.i2d cn) (FP.i2d th))), .second, .val (.double (FP.ddiv (FP.i2d cm) (FP.i2d th))), .second, .val (.double (FP.ddiv (FP.i2d ((2 : Int32) * cn)) (FP.i2d ((2 : Int32) * th)))), .second, .val (.double (FP.ddiv (FP.i2d th) (FP.i2d ((2 : Int32) * th)))), .second, .val (.double (FP.ddiv (FP.i2d cn) (FP.i2d (th + (1 : Int32))))), .second, .val (.int (1 : Int32)), .val (.int (1 : Int32)), .val (.int (1 : Int32)), .val (.int (1 : Int32)), .unset, .unset, .unset]) (pc' := 227) rfl (hb hby at_225) rfl ?_
      refine own_dload X141 hx (pc' := 229) rfl (hb hby at_227) rfl ?_
      refine own_ldcD X141 hx hZ hown (hw _ (List.mem_of_getElem? (i := 31) rfl)) (pc' := 232) rfl (hb hby at_229) ?_
      refine own_dcmp X141 hx (v := (0 : Int32)) (pc' := 233) rfl (hb hby at_232) (own_deq zh own_Zh rfl _) ?_
      refine own_ifF X141 hx (pc' := 236) rfl (hb hby at_233) (XT.i0_ne_f (by decide)) ?_
      refine own_iconst X141 hx (v := (1 : Int32)) (pc' := 237) rfl (hb hby at_236) rfl ?_
      refine own_goto X141 hx (pc' := 241) (hb hby at_237) (by decide) (by decide) ?_
      refine own_istore X141 hx (Ls' := #[.val (.int p1), .val (.int p2), .val (.int p3), .val (.int p4), .val (.int th), .val (.int cn), .val (.int cm), .val (.double (FP.ddiv (FP.i2d cn) (FP.i2d th))), .second, .val (.double (FP.ddiv (FP.i2d cm) (FP.i2d th))), .second, .val (.double (FP.ddiv (FP.i2d ((2 : Int32) * cn)) (FP.i2d ((2 : Int32) * th)))), .second, .val (.double (FP.ddiv (FP.i2d th) (FP.i2d ((2 : Int32) * th)))), .second, .val (.double (FP.ddiv (FP.i2d cn) (FP.i2d (th + (1 : Int32))))), .second, .val (.int (1 : Int32)), .val (.int (1 : Int32)), .val (.int (1 : Int32)), .val (.int (1 : Int32)), .val (.int (1 : Int32)), .unset, .unset]) (pc' := 243) rfl (hb hby at_241) rfl ?_
      refine own_iload X141 hx (pc' := 245) rfl (hb hby at_243) rfl ?_
      refine own_iload X141 hx (pc' := 247) rfl (hb hby at_245) rfl ?_
      refine own_icmpT X141 hx (pc' := 254) (hb hby at_247) (XT.ii_ge_t a2) (by decide) (by decide) ?_
      refine own_iconst X141 hx (v := (0 : Int32)) (pc' := 255) rfl (hb hby at_254) rfl ?_
      refine own_dload X141 hx (pc' := 257) rfl (hb hby at_255) rfl ?_
      refine own_dload X141 hx (pc' := 259) rfl (hb hby at_257) rfl ?_
      refine own_dcmp X141 hx (v := (0 : Int32)) (pc' := 260) rfl (hb hby at_259) (own_deq zs zs2 (by rw [a3]) _) ?_
      refine own_ifT X141 hx (pc' := 267) (hb hby at_260) (XT.i0_ge_t (by decide)) (by decide) (by decide) ?_
      refine own_iconst X141 hx (v := (0 : Int32)) (pc' := 268) rfl (hb hby at_267) rfl ?_
      refine own_icmpF X141 hx (pc' := 271) rfl (hb hby at_268) (XT.ii_ne_f (by decide)) ?_
      refine own_iload X141 hx (pc' := 273) rfl (hb hby at_271) rfl ?_
      refine own_iload X141 hx (pc' := 275) rfl (hb hby at_273) rfl ?_
      refine own_icmpF X141 hx (pc' := 278) rfl (hb hby at_275) (XT.ii_ne_f a3) ?_
      refine own_iconst X141 hx (v := (1 : Int32)) (pc' := 279) rfl (hb hby at_278) rfl ?_
      refine own_goto X141 hx (pc' := 283) (hb hby at_279) (by decide) (by decide) ?_
      refine own_dload X141 hx (pc' := 285) rfl (hb hby at_283) rfl ?_
      refine own_dload X141 hx (pc' := 287) rfl (hb hby at_285) rfl ?_
      refine own_dcmp X141 hx (v := (0 : Int32)) (pc' := 288) rfl (hb hby at_287) (own_deq zs zs2 (by rw [a3]) _) ?_
      refine own_ifF X141 hx (pc' := 291) rfl (hb hby at_288) (XT.i0_ne_f (by decide)) ?_
      refine own_iconst X141 hx (v := (1 : Int32)) (pc' := 292) rfl (hb hby at_291) rfl ?_
      refine own_goto X141 hx (pc' := 296) (hb hby at_292) (by decide) (by decide) ?_
      refine own_icmpF X141 hx (pc' := 299) rfl (hb hby at_296) (XT.ii_ne_f (by decide)) ?_
      refine own_iconst X141 hx (v := (1 : Int32)) (pc' := 300) rfl (hb hby at_299) rfl ?_
      refine own_goto X141 hx (pc' := 304) (hb hby at_300) (by decide) (by decide) ?_
      refine own_istore X141 hx (Ls' := #[.val (.int p1), .val (.int p2), .val (.int p3), .val (.int p4), .val (.int th), .val (.int cn), .val (.int cm), .val (.double (FP.ddiv (FP.i2d cn) (FP.i2d th))), .second, .val (.double (FP.ddiv (FP.i2d cm) (FP.i2d th))), .second, .val (.double (FP.ddiv (FP.i2d ((2 : Int32) * cn)) (FP.i2d ((2 : Int32) * th)))), .second, .val (.double (FP.ddiv (FP.i2d th) (FP.i2d ((2 : Int32) * th)))), .second, .val (.double (FP.ddiv (FP.i2d cn) (FP.i2d (th + (1 : Int32))))), .second, .val (.int (1 : Int32)), .val (.int (1 : Int32)), .val (.int (1 : Int32)), .val (.int (1 : Int32)), .val (.int (1 : Int32)), .val (.int (1 : Int32)), .unset]) (pc' := 306) rfl (hb hby at_304) rfl ?_
      refine own_dload X141 hx (pc' := 308) rfl (hb hby at_306) rfl ?_
      refine own_dload X141 hx (pc' := 310) rfl (hb hby at_308) rfl ?_
      refine own_dcmp X141 hx (v := (cmpValue (FP.dcmp (FP.ddiv (FP.i2d cn) (FP.i2d (th + (1 : Int32)))) (FP.ddiv (FP.i2d cn) (FP.i2d th))) .g)) (pc' := 311) rfl (hb hby at_310) rfl ?_
      refine own_ifF X141 hx (pc' := 314) rfl (hb hby at_311) (XT.i0_gt_f (own_dle zw zs (own_wide hcn.2 hth.1 hth.2) _)) ?_
      refine own_iconst X141 hx (v := (1 : Int32)) (pc' := 315) rfl (hb hby at_314) rfl ?_
      refine own_goto X141 hx (pc' := 319) (hb hby at_315) (by decide) (by decide) ?_
      refine own_istore X141 hx (Ls' := #[.val (.int p1), .val (.int p2), .val (.int p3), .val (.int p4), .val (.int th), .val (.int cn), .val (.int cm), .val (.double (FP.ddiv (FP.i2d cn) (FP.i2d th))), .second, .val (.double (FP.ddiv (FP.i2d cm) (FP.i2d th))), .second, .val (.double (FP.ddiv (FP.i2d ((2 : Int32) * cn)) (FP.i2d ((2 : Int32) * th)))), .second, .val (.double (FP.ddiv (FP.i2d th) (FP.i2d ((2 : Int32) * th)))), .second, .val (.double (FP.ddiv (FP.i2d cn) (FP.i2d (th + (1 : Int32))))), .second, .val (.int (1 : Int32)), .val (.int (1 : Int32)), .val (.int (1 : Int32)), .val (.int (1 : Int32)), .val (.int (1 : Int32)), .val (.int (1 : Int32)), .val (.int (1 : Int32))]) (pc' := 321) rfl (hb hby at_319) rfl ?_
      refine own_iload X141 hx (pc' := 323) rfl (hb hby at_321) rfl ?_
      refine own_ifF X141 hx (pc' := 326) rfl (hb hby at_323) (XT.i0_eq_f (by decide)) ?_
      refine own_iload X141 hx (pc' := 328) rfl (hb hby at_326) rfl ?_
      refine own_ifF X141 hx (pc' := 331) rfl (hb hby at_328) (XT.i0_eq_f (by decide)) ?_
      refine own_iload X141 hx (pc' := 333) rfl (hb hby at_331) rfl ?_
      refine own_ifF X141 hx (pc' := 336) rfl (hb hby at_333) (XT.i0_eq_f (by decide)) ?_
      refine own_iload X141 hx (pc' := 338) rfl (hb hby at_336) rfl ?_
      refine own_ifF X141 hx (pc' := 341) rfl (hb hby at_338) (XT.i0_eq_f (by decide)) ?_
      refine own_iload X141 hx (pc' := 343) rfl (hb hby at_341) rfl ?_
      refine own_ifF X141 hx (pc' := 346) rfl (hb hby at_343) (XT.i0_eq_f (by decide)) ?_
      refine own_iload X141 hx (pc' := 348) rfl (hb hby at_346) rfl ?_
      refine own_ifF X141 hx (pc' := 351) rfl (hb hby at_348) (XT.i0_eq_f (by decide)) ?_
      refine own_iload X141 hx (pc' := 353) rfl (hb hby at_351) rfl ?_
      refine own_ifF X141 hx (pc' := 356) rfl (hb hby at_353) (XT.i0_eq_f (by decide)) ?_
      refine own_iconst X141 hx (v := (1 : Int32)) (pc' := 357) rfl (hb hby at_356) rfl ?_
      refine own_goto X141 hx (pc' := 361) (hb hby at_357) (by decide) (by decide) ?_
      refine own_zret X141 hx hlk hret (by simp) (hb hby at_361) (by decide) (by decide) ?_
      rw [e141]
      exact ⟨rfl, M141⟩
    have a5 : cm < cn := by
      rw [Int32.lt_iff_toInt_lt] at a2 ⊢
      have : ¬ cn.toInt = cm.toInt := fun q => a3 (Int32.toInt_inj.mp q)
      omega
    refine own_dconst0 X141 hx (v := FP.dconst0) (pc' := 126) rfl (hb hby at_125) rfl ?_
    refine own_dload X141 hx (pc' := 128) rfl (hb hby at_126) rfl ?_
    refine own_dcmp X141 hx (v := (-1 : Int32)) (pc' := 129) rfl (hb hby at_128) (own_dlt own_Z0 zs (q2 a0) _) ?_
    refine own_ifF X141 hx (pc' := 132) rfl (hb hby at_129) (XT.i0_gt_f (by decide)) ?_
    refine own_dload X141 hx (pc' := 134) rfl (hb hby at_132) rfl ?_
    refine own_dconst1 X141 hx (v := FP.dconst1) (pc' := 135) rfl (hb hby at_134) rfl ?_
    refine own_dcmp X141 hx (v := (0 : Int32)) (pc' := 136) rfl (hb hby at_135) (own_deq zs own_Z1 (q3 a1) _) ?_
    refine own_ifF X141 hx (pc' := 139) rfl (hb hby at_136) (XT.i0_gt_f (by decide)) ?_
    refine own_iconst X141 hx (v := (1 : Int32)) (pc' := 140) rfl (hb hby at_139) rfl ?_
    refine own_goto X141 hx (pc' := 144) (hb hby at_140) (by decide) (by decide) ?_
    refine own_istore X141 hx (Ls' := #[.val (.int p1), .val (.int p2), .val (.int p3), .val (.int p4), .val (.int th), .val (.int cn), .val (.int cm), .val (.double (FP.ddiv (FP.i2d cn) (FP.i2d th))), .second, .val (.double (FP.ddiv (FP.i2d cm) (FP.i2d th))), .second, .val (.double (FP.ddiv (FP.i2d ((2 : Int32) * cn)) (FP.i2d ((2 : Int32) * th)))), .second, .val (.double (FP.ddiv (FP.i2d th) (FP.i2d ((2 : Int32) * th)))), .second, .val (.double (FP.ddiv (FP.i2d cn) (FP.i2d (th + (1 : Int32))))), .second, .val (.int (1 : Int32)), .unset, .unset, .unset, .unset, .unset, .unset]) (pc' := 146) rfl (hb hby at_144) rfl ?_
    refine own_dload X141 hx (pc' := 148) rfl (hb hby at_146) rfl ?_
    refine own_dconst0 X141 hx (v := FP.dconst0) (pc' := 149) rfl (hb hby at_148) rfl ?_
    refine own_dcmp X141 hx (v := (1 : Int32)) (pc' := 150) rfl (hb hby at_149) (own_dgt zs own_Z0 (q2 a0) _) ?_
    refine own_ifT X141 hx (pc' := 157) (hb hby at_150) (XT.i0_ne_t (by decide)) (by decide) (by decide) ?_
    refine own_iconst X141 hx (v := (0 : Int32)) (pc' := 158) rfl (hb hby at_157) rfl ?_
    refine own_iload X141 hx (pc' := 160) rfl (hb hby at_158) rfl ?_
    refine own_ifT X141 hx (pc' := 167) (hb hby at_160) (XT.i0_ne_t a0) (by decide) (by decide) ?_
    refine own_iconst X141 hx (v := (0 : Int32)) (pc' := 168) rfl (hb hby at_167) rfl ?_
    refine own_icmpF X141 hx (pc' := 171) rfl (hb hby at_168) (XT.ii_ne_f (by decide)) ?_
    refine own_iconst X141 hx (v := (1 : Int32)) (pc' := 172) rfl (hb hby at_171) rfl ?_
    refine own_goto X141 hx (pc' := 176) (hb hby at_172) (by decide) (by decide) ?_
    refine own_istore X141 hx (Ls' := #[.val (.int p1), .val (.int p2), .val (.int p3), .val (.int p4), .val (.int th), .val (.int cn), .val (.int cm), .val (.double (FP.ddiv (FP.i2d cn) (FP.i2d th))), .second, .val (.double (FP.ddiv (FP.i2d cm) (FP.i2d th))), .second, .val (.double (FP.ddiv (FP.i2d ((2 : Int32) * cn)) (FP.i2d ((2 : Int32) * th)))), .second, .val (.double (FP.ddiv (FP.i2d th) (FP.i2d ((2 : Int32) * th)))), .second, .val (.double (FP.ddiv (FP.i2d cn) (FP.i2d (th + (1 : Int32))))), .second, .val (.int (1 : Int32)), .val (.int (1 : Int32)), .unset, .unset, .unset, .unset, .unset]) (pc' := 178) rfl (hb hby at_176) rfl ?_
    refine own_dload X141 hx (pc' := 180) rfl (hb hby at_178) rfl ?_
    refine own_dconst1 X141 hx (v := FP.dconst1) (pc' := 181) rfl (hb hby at_180) rfl ?_
    refine own_dcmp X141 hx (v := (0 : Int32)) (pc' := 182) rfl (hb hby at_181) (own_deq zs own_Z1 (q3 a1) _) ?_
    refine own_ifF X141 hx (pc' := 185) rfl (hb hby at_182) (XT.i0_ne_f (by decide)) ?_
    refine own_iconst X141 hx (v := (1 : Int32)) (pc' := 186) rfl (hb hby at_185) rfl ?_
    refine own_goto X141 hx (pc' := 190) (hb hby at_186) (by decide) (by decide) ?_
    refine own_iload X141 hx (pc' := 192) rfl (hb hby at_190) rfl ?_
    refine own_iload X141 hx (pc' := 194) rfl (hb hby at_192) rfl ?_
    refine own_icmpF X141 hx (pc' := 197) rfl (hb hby at_194) (XT.ii_ne_f a1) ?_
    refine own_iconst X141 hx (v := (1 : Int32)) (pc' := 198) rfl (hb hby at_197) rfl ?_
    refine own_goto X141 hx (pc' := 202) (hb hby at_198) (by decide) (by decide) ?_
    refine own_icmpF X141 hx (pc' := 205) rfl (hb hby at_202) (XT.ii_ne_f (by decide)) ?_
    refine own_iconst X141 hx (v := (1 : Int32)) (pc' := 206) rfl (hb hby at_205) rfl ?_
    refine own_goto X141 hx (pc' := 210) (hb hby at_206) (by decide) (by decide) ?_
    refine own_istore X141 hx (Ls' := #[.val (.int p1), .val (.int p2), .val (.int p3), .val (.int p4), .val (.int th), .val (.int cn), .val (.int cm), .val (.double (FP.ddiv (FP.i2d cn) (FP.i2d th))), .second, .val (.double (FP.ddiv (FP.i2d cm) (FP.i2d th))), .second, .val (.double (FP.ddiv (FP.i2d ((2 : Int32) * cn)) (FP.i2d ((2 : Int32) * th)))), .second, .val (.double (FP.ddiv (FP.i2d th) (FP.i2d ((2 : Int32) * th)))), .second, .val (.double (FP.ddiv (FP.i2d cn) (FP.i2d (th + (1 : Int32))))), .second, .val (.int (1 : Int32)), .val (.int (1 : Int32)), .val (.int (1 : Int32)), .unset, .unset, .unset, .unset]) (pc' := 212) rfl (hb hby at_210) rfl ?_
    refine own_dload X141 hx (pc' := 214) rfl (hb hby at_212) rfl ?_
    refine own_dload X141 hx (pc' := 216) rfl (hb hby at_214) rfl ?_
    refine own_dcmp X141 hx (v := (0 : Int32)) (pc' := 217) rfl (hb hby at_216) (own_deq zsc zs rfl _) ?_
    refine own_ifF X141 hx (pc' := 220) rfl (hb hby at_217) (XT.i0_ne_f (by decide)) ?_
    refine own_iconst X141 hx (v := (1 : Int32)) (pc' := 221) rfl (hb hby at_220) rfl ?_
    refine own_goto X141 hx (pc' := 225) (hb hby at_221) (by decide) (by decide) ?_
    refine own_istore X141 hx (Ls' := #[.val (.int p1), .val (.int p2), .val (.int p3), .val (.int p4), .val (.int th), .val (.int cn), .val (.int cm), .val (.double (FP.ddiv (FP.i2d cn) (FP.i2d th))), .second, .val (.double (FP.ddiv (FP.i2d cm) (FP.i2d th))), .second, .val (.double (FP.ddiv (FP.i2d ((2 : Int32) * cn)) (FP.i2d ((2 : Int32) * th)))), .second, .val (.double (FP.ddiv (FP.i2d th) (FP.i2d ((2 : Int32) * th)))), .second, .val (.double (FP.ddiv (FP.i2d cn) (FP.i2d (th + (1 : Int32))))), .second, .val (.int (1 : Int32)), .val (.int (1 : Int32)), .val (.int (1 : Int32)), .val (.int (1 : Int32)), .unset, .unset, .unset]) (pc' := 227) rfl (hb hby at_225) rfl ?_
    refine own_dload X141 hx (pc' := 229) rfl (hb hby at_227) rfl ?_
    refine own_ldcD X141 hx hZ hown (hw _ (List.mem_of_getElem? (i := 31) rfl)) (pc' := 232) rfl (hb hby at_229) ?_
    refine own_dcmp X141 hx (v := (0 : Int32)) (pc' := 233) rfl (hb hby at_232) (own_deq zh own_Zh rfl _) ?_
    refine own_ifF X141 hx (pc' := 236) rfl (hb hby at_233) (XT.i0_ne_f (by decide)) ?_
    refine own_iconst X141 hx (v := (1 : Int32)) (pc' := 237) rfl (hb hby at_236) rfl ?_
    refine own_goto X141 hx (pc' := 241) (hb hby at_237) (by decide) (by decide) ?_
    refine own_istore X141 hx (Ls' := #[.val (.int p1), .val (.int p2), .val (.int p3), .val (.int p4), .val (.int th), .val (.int cn), .val (.int cm), .val (.double (FP.ddiv (FP.i2d cn) (FP.i2d th))), .second, .val (.double (FP.ddiv (FP.i2d cm) (FP.i2d th))), .second, .val (.double (FP.ddiv (FP.i2d ((2 : Int32) * cn)) (FP.i2d ((2 : Int32) * th)))), .second, .val (.double (FP.ddiv (FP.i2d th) (FP.i2d ((2 : Int32) * th)))), .second, .val (.double (FP.ddiv (FP.i2d cn) (FP.i2d (th + (1 : Int32))))), .second, .val (.int (1 : Int32)), .val (.int (1 : Int32)), .val (.int (1 : Int32)), .val (.int (1 : Int32)), .val (.int (1 : Int32)), .unset, .unset]) (pc' := 243) rfl (hb hby at_241) rfl ?_
    refine own_iload X141 hx (pc' := 245) rfl (hb hby at_243) rfl ?_
    refine own_iload X141 hx (pc' := 247) rfl (hb hby at_245) rfl ?_
    refine own_icmpT X141 hx (pc' := 254) (hb hby at_247) (XT.ii_ge_t a2) (by decide) (by decide) ?_
    refine own_iconst X141 hx (v := (0 : Int32)) (pc' := 255) rfl (hb hby at_254) rfl ?_
    refine own_dload X141 hx (pc' := 257) rfl (hb hby at_255) rfl ?_
    refine own_dload X141 hx (pc' := 259) rfl (hb hby at_257) rfl ?_
    refine own_dcmp X141 hx (v := (1 : Int32)) (pc' := 260) rfl (hb hby at_259) (own_dgt zs zs2 (own_incr hcm.1 hcn.2 hth.1 a5) _) ?_
    refine own_ifT X141 hx (pc' := 267) (hb hby at_260) (XT.i0_ge_t (by decide)) (by decide) (by decide) ?_
    refine own_iconst X141 hx (v := (0 : Int32)) (pc' := 268) rfl (hb hby at_267) rfl ?_
    refine own_icmpF X141 hx (pc' := 271) rfl (hb hby at_268) (XT.ii_ne_f (by decide)) ?_
    refine own_iload X141 hx (pc' := 273) rfl (hb hby at_271) rfl ?_
    refine own_iload X141 hx (pc' := 275) rfl (hb hby at_273) rfl ?_
    refine own_icmpT X141 hx (pc' := 282) (hb hby at_275) (XT.ii_ne_t a3) (by decide) (by decide) ?_
    refine own_iconst X141 hx (v := (0 : Int32)) (pc' := 283) rfl (hb hby at_282) rfl ?_
    refine own_dload X141 hx (pc' := 285) rfl (hb hby at_283) rfl ?_
    refine own_dload X141 hx (pc' := 287) rfl (hb hby at_285) rfl ?_
    refine own_dcmp X141 hx (v := (1 : Int32)) (pc' := 288) rfl (hb hby at_287) (own_dgt zs zs2 (own_incr hcm.1 hcn.2 hth.1 a5) _) ?_
    refine own_ifT X141 hx (pc' := 295) (hb hby at_288) (XT.i0_ne_t (by decide)) (by decide) (by decide) ?_
    refine own_iconst X141 hx (v := (0 : Int32)) (pc' := 296) rfl (hb hby at_295) rfl ?_
    refine own_icmpF X141 hx (pc' := 299) rfl (hb hby at_296) (XT.ii_ne_f (by decide)) ?_
    refine own_iconst X141 hx (v := (1 : Int32)) (pc' := 300) rfl (hb hby at_299) rfl ?_
    refine own_goto X141 hx (pc' := 304) (hb hby at_300) (by decide) (by decide) ?_
    refine own_istore X141 hx (Ls' := #[.val (.int p1), .val (.int p2), .val (.int p3), .val (.int p4), .val (.int th), .val (.int cn), .val (.int cm), .val (.double (FP.ddiv (FP.i2d cn) (FP.i2d th))), .second, .val (.double (FP.ddiv (FP.i2d cm) (FP.i2d th))), .second, .val (.double (FP.ddiv (FP.i2d ((2 : Int32) * cn)) (FP.i2d ((2 : Int32) * th)))), .second, .val (.double (FP.ddiv (FP.i2d th) (FP.i2d ((2 : Int32) * th)))), .second, .val (.double (FP.ddiv (FP.i2d cn) (FP.i2d (th + (1 : Int32))))), .second, .val (.int (1 : Int32)), .val (.int (1 : Int32)), .val (.int (1 : Int32)), .val (.int (1 : Int32)), .val (.int (1 : Int32)), .val (.int (1 : Int32)), .unset]) (pc' := 306) rfl (hb hby at_304) rfl ?_
    refine own_dload X141 hx (pc' := 308) rfl (hb hby at_306) rfl ?_
    refine own_dload X141 hx (pc' := 310) rfl (hb hby at_308) rfl ?_
    refine own_dcmp X141 hx (v := (cmpValue (FP.dcmp (FP.ddiv (FP.i2d cn) (FP.i2d (th + (1 : Int32)))) (FP.ddiv (FP.i2d cn) (FP.i2d th))) .g)) (pc' := 311) rfl (hb hby at_310) rfl ?_
    refine own_ifF X141 hx (pc' := 314) rfl (hb hby at_311) (XT.i0_gt_f (own_dle zw zs (own_wide hcn.2 hth.1 hth.2) _)) ?_
    refine own_iconst X141 hx (v := (1 : Int32)) (pc' := 315) rfl (hb hby at_314) rfl ?_
    refine own_goto X141 hx (pc' := 319) (hb hby at_315) (by decide) (by decide) ?_
    refine own_istore X141 hx (Ls' := #[.val (.int p1), .val (.int p2), .val (.int p3), .val (.int p4), .val (.int th), .val (.int cn), .val (.int cm), .val (.double (FP.ddiv (FP.i2d cn) (FP.i2d th))), .second, .val (.double (FP.ddiv (FP.i2d cm) (FP.i2d th))), .second, .val (.double (FP.ddiv (FP.i2d ((2 : Int32) * cn)) (FP.i2d ((2 : Int32) * th)))), .second, .val (.double (FP.ddiv (FP.i2d th) (FP.i2d ((2 : Int32) * th)))), .second, .val (.double (FP.ddiv (FP.i2d cn) (FP.i2d (th + (1 : Int32))))), .second, .val (.int (1 : Int32)), .val (.int (1 : Int32)), .val (.int (1 : Int32)), .val (.int (1 : Int32)), .val (.int (1 : Int32)), .val (.int (1 : Int32)), .val (.int (1 : Int32))]) (pc' := 321) rfl (hb hby at_319) rfl ?_
    refine own_iload X141 hx (pc' := 323) rfl (hb hby at_321) rfl ?_
    refine own_ifF X141 hx (pc' := 326) rfl (hb hby at_323) (XT.i0_eq_f (by decide)) ?_
    refine own_iload X141 hx (pc' := 328) rfl (hb hby at_326) rfl ?_
    refine own_ifF X141 hx (pc' := 331) rfl (hb hby at_328) (XT.i0_eq_f (by decide)) ?_
    refine own_iload X141 hx (pc' := 333) rfl (hb hby at_331) rfl ?_
    refine own_ifF X141 hx (pc' := 336) rfl (hb hby at_333) (XT.i0_eq_f (by decide)) ?_
    refine own_iload X141 hx (pc' := 338) rfl (hb hby at_336) rfl ?_
    refine own_ifF X141 hx (pc' := 341) rfl (hb hby at_338) (XT.i0_eq_f (by decide)) ?_
    refine own_iload X141 hx (pc' := 343) rfl (hb hby at_341) rfl ?_
    refine own_ifF X141 hx (pc' := 346) rfl (hb hby at_343) (XT.i0_eq_f (by decide)) ?_
    refine own_iload X141 hx (pc' := 348) rfl (hb hby at_346) rfl ?_
    refine own_ifF X141 hx (pc' := 351) rfl (hb hby at_348) (XT.i0_eq_f (by decide)) ?_
    refine own_iload X141 hx (pc' := 353) rfl (hb hby at_351) rfl ?_
    refine own_ifF X141 hx (pc' := 356) rfl (hb hby at_353) (XT.i0_eq_f (by decide)) ?_
    refine own_iconst X141 hx (v := (1 : Int32)) (pc' := 357) rfl (hb hby at_356) rfl ?_
    refine own_goto X141 hx (pc' := 361) (hb hby at_357) (by decide) (by decide) ?_
    refine own_zret X141 hx hlk hret (by simp) (hb hby at_361) (by decide) (by decide) ?_
    rw [e141]
    exact ⟨rfl, M141⟩
  by_cases a2 : cn < cm
  · have a3 : ¬ cn = cm := fun q => by rw [q] at a2; exact absurd a2 (by rw [Int32.lt_iff_toInt_lt]; omega)
    refine own_dconst0 X141 hx (v := FP.dconst0) (pc' := 126) rfl (hb hby at_125) rfl ?_
    refine own_dload X141 hx (pc' := 128) rfl (hb hby at_126) rfl ?_
    refine own_dcmp X141 hx (v := (-1 : Int32)) (pc' := 129) rfl (hb hby at_128) (own_dlt own_Z0 zs (q2 a0) _) ?_
    refine own_ifF X141 hx (pc' := 132) rfl (hb hby at_129) (XT.i0_gt_f (by decide)) ?_
    refine own_dload X141 hx (pc' := 134) rfl (hb hby at_132) rfl ?_
    refine own_dconst1 X141 hx (v := FP.dconst1) (pc' := 135) rfl (hb hby at_134) rfl ?_
    refine own_dcmp X141 hx (v := (-1 : Int32)) (pc' := 136) rfl (hb hby at_135) (own_dlt zs own_Z1 (q4 a1) _) ?_
    refine own_ifF X141 hx (pc' := 139) rfl (hb hby at_136) (XT.i0_gt_f (by decide)) ?_
    refine own_iconst X141 hx (v := (1 : Int32)) (pc' := 140) rfl (hb hby at_139) rfl ?_
    refine own_goto X141 hx (pc' := 144) (hb hby at_140) (by decide) (by decide) ?_
    refine own_istore X141 hx (Ls' := #[.val (.int p1), .val (.int p2), .val (.int p3), .val (.int p4), .val (.int th), .val (.int cn), .val (.int cm), .val (.double (FP.ddiv (FP.i2d cn) (FP.i2d th))), .second, .val (.double (FP.ddiv (FP.i2d cm) (FP.i2d th))), .second, .val (.double (FP.ddiv (FP.i2d ((2 : Int32) * cn)) (FP.i2d ((2 : Int32) * th)))), .second, .val (.double (FP.ddiv (FP.i2d th) (FP.i2d ((2 : Int32) * th)))), .second, .val (.double (FP.ddiv (FP.i2d cn) (FP.i2d (th + (1 : Int32))))), .second, .val (.int (1 : Int32)), .unset, .unset, .unset, .unset, .unset, .unset]) (pc' := 146) rfl (hb hby at_144) rfl ?_
    refine own_dload X141 hx (pc' := 148) rfl (hb hby at_146) rfl ?_
    refine own_dconst0 X141 hx (v := FP.dconst0) (pc' := 149) rfl (hb hby at_148) rfl ?_
    refine own_dcmp X141 hx (v := (1 : Int32)) (pc' := 150) rfl (hb hby at_149) (own_dgt zs own_Z0 (q2 a0) _) ?_
    refine own_ifT X141 hx (pc' := 157) (hb hby at_150) (XT.i0_ne_t (by decide)) (by decide) (by decide) ?_
    refine own_iconst X141 hx (v := (0 : Int32)) (pc' := 158) rfl (hb hby at_157) rfl ?_
    refine own_iload X141 hx (pc' := 160) rfl (hb hby at_158) rfl ?_
    refine own_ifT X141 hx (pc' := 167) (hb hby at_160) (XT.i0_ne_t a0) (by decide) (by decide) ?_
    refine own_iconst X141 hx (v := (0 : Int32)) (pc' := 168) rfl (hb hby at_167) rfl ?_
    refine own_icmpF X141 hx (pc' := 171) rfl (hb hby at_168) (XT.ii_ne_f (by decide)) ?_
    refine own_iconst X141 hx (v := (1 : Int32)) (pc' := 172) rfl (hb hby at_171) rfl ?_
    refine own_goto X141 hx (pc' := 176) (hb hby at_172) (by decide) (by decide) ?_
    refine own_istore X141 hx (Ls' := #[.val (.int p1), .val (.int p2), .val (.int p3), .val (.int p4), .val (.int th), .val (.int cn), .val (.int cm), .val (.double (FP.ddiv (FP.i2d cn) (FP.i2d th))), .second, .val (.double (FP.ddiv (FP.i2d cm) (FP.i2d th))), .second, .val (.double (FP.ddiv (FP.i2d ((2 : Int32) * cn)) (FP.i2d ((2 : Int32) * th)))), .second, .val (.double (FP.ddiv (FP.i2d th) (FP.i2d ((2 : Int32) * th)))), .second, .val (.double (FP.ddiv (FP.i2d cn) (FP.i2d (th + (1 : Int32))))), .second, .val (.int (1 : Int32)), .val (.int (1 : Int32)), .unset, .unset, .unset, .unset, .unset]) (pc' := 178) rfl (hb hby at_176) rfl ?_
    refine own_dload X141 hx (pc' := 180) rfl (hb hby at_178) rfl ?_
    refine own_dconst1 X141 hx (v := FP.dconst1) (pc' := 181) rfl (hb hby at_180) rfl ?_
    refine own_dcmp X141 hx (v := (-1 : Int32)) (pc' := 182) rfl (hb hby at_181) (own_dlt zs own_Z1 (q4 a1) _) ?_
    refine own_ifT X141 hx (pc' := 189) (hb hby at_182) (XT.i0_ne_t (by decide)) (by decide) (by decide) ?_
    refine own_iconst X141 hx (v := (0 : Int32)) (pc' := 190) rfl (hb hby at_189) rfl ?_
    refine own_iload X141 hx (pc' := 192) rfl (hb hby at_190) rfl ?_
    refine own_iload X141 hx (pc' := 194) rfl (hb hby at_192) rfl ?_
    refine own_icmpT X141 hx (pc' := 201) (hb hby at_194) (XT.ii_ne_t a1) (by decide) (by decide) ?_
    refine own_iconst X141 hx (v := (0 : Int32)) (pc' := 202) rfl (hb hby at_201) rfl ?_
    refine own_icmpF X141 hx (pc' := 205) rfl (hb hby at_202) (XT.ii_ne_f (by decide)) ?_
    refine own_iconst X141 hx (v := (1 : Int32)) (pc' := 206) rfl (hb hby at_205) rfl ?_
    refine own_goto X141 hx (pc' := 210) (hb hby at_206) (by decide) (by decide) ?_
    refine own_istore X141 hx (Ls' := #[.val (.int p1), .val (.int p2), .val (.int p3), .val (.int p4), .val (.int th), .val (.int cn), .val (.int cm), .val (.double (FP.ddiv (FP.i2d cn) (FP.i2d th))), .second, .val (.double (FP.ddiv (FP.i2d cm) (FP.i2d th))), .second, .val (.double (FP.ddiv (FP.i2d ((2 : Int32) * cn)) (FP.i2d ((2 : Int32) * th)))), .second, .val (.double (FP.ddiv (FP.i2d th) (FP.i2d ((2 : Int32) * th)))), .second, .val (.double (FP.ddiv (FP.i2d cn) (FP.i2d (th + (1 : Int32))))), .second, .val (.int (1 : Int32)), .val (.int (1 : Int32)), .val (.int (1 : Int32)), .unset, .unset, .unset, .unset]) (pc' := 212) rfl (hb hby at_210) rfl ?_
    refine own_dload X141 hx (pc' := 214) rfl (hb hby at_212) rfl ?_
    refine own_dload X141 hx (pc' := 216) rfl (hb hby at_214) rfl ?_
    refine own_dcmp X141 hx (v := (0 : Int32)) (pc' := 217) rfl (hb hby at_216) (own_deq zsc zs rfl _) ?_
    refine own_ifF X141 hx (pc' := 220) rfl (hb hby at_217) (XT.i0_ne_f (by decide)) ?_
    refine own_iconst X141 hx (v := (1 : Int32)) (pc' := 221) rfl (hb hby at_220) rfl ?_
    refine own_goto X141 hx (pc' := 225) (hb hby at_221) (by decide) (by decide) ?_
    refine own_istore X141 hx (Ls' := #[.val (.int p1), .val (.int p2), .val (.int p3), .val (.int p4), .val (.int th), .val (.int cn), .val (.int cm), .val (.double (FP.ddiv (FP.i2d cn) (FP.i2d th))), .second, .val (.double (FP.ddiv (FP.i2d cm) (FP.i2d th))), .second, .val (.double (FP.ddiv (FP.i2d ((2 : Int32) * cn)) (FP.i2d ((2 : Int32) * th)))), .second, .val (.double (FP.ddiv (FP.i2d th) (FP.i2d ((2 : Int32) * th)))), .second, .val (.double (FP.ddiv (FP.i2d cn) (FP.i2d (th + (1 : Int32))))), .second, .val (.int (1 : Int32)), .val (.int (1 : Int32)), .val (.int (1 : Int32)), .val (.int (1 : Int32)), .unset, .unset, .unset]) (pc' := 227) rfl (hb hby at_225) rfl ?_
    refine own_dload X141 hx (pc' := 229) rfl (hb hby at_227) rfl ?_
    refine own_ldcD X141 hx hZ hown (hw _ (List.mem_of_getElem? (i := 31) rfl)) (pc' := 232) rfl (hb hby at_229) ?_
    refine own_dcmp X141 hx (v := (0 : Int32)) (pc' := 233) rfl (hb hby at_232) (own_deq zh own_Zh rfl _) ?_
    refine own_ifF X141 hx (pc' := 236) rfl (hb hby at_233) (XT.i0_ne_f (by decide)) ?_
    refine own_iconst X141 hx (v := (1 : Int32)) (pc' := 237) rfl (hb hby at_236) rfl ?_
    refine own_goto X141 hx (pc' := 241) (hb hby at_237) (by decide) (by decide) ?_
    refine own_istore X141 hx (Ls' := #[.val (.int p1), .val (.int p2), .val (.int p3), .val (.int p4), .val (.int th), .val (.int cn), .val (.int cm), .val (.double (FP.ddiv (FP.i2d cn) (FP.i2d th))), .second, .val (.double (FP.ddiv (FP.i2d cm) (FP.i2d th))), .second, .val (.double (FP.ddiv (FP.i2d ((2 : Int32) * cn)) (FP.i2d ((2 : Int32) * th)))), .second, .val (.double (FP.ddiv (FP.i2d th) (FP.i2d ((2 : Int32) * th)))), .second, .val (.double (FP.ddiv (FP.i2d cn) (FP.i2d (th + (1 : Int32))))), .second, .val (.int (1 : Int32)), .val (.int (1 : Int32)), .val (.int (1 : Int32)), .val (.int (1 : Int32)), .val (.int (1 : Int32)), .unset, .unset]) (pc' := 243) rfl (hb hby at_241) rfl ?_
    refine own_iload X141 hx (pc' := 245) rfl (hb hby at_243) rfl ?_
    refine own_iload X141 hx (pc' := 247) rfl (hb hby at_245) rfl ?_
    refine own_icmpF X141 hx (pc' := 250) rfl (hb hby at_247) (XT.ii_ge_f a2) ?_
    refine own_iconst X141 hx (v := (1 : Int32)) (pc' := 251) rfl (hb hby at_250) rfl ?_
    refine own_goto X141 hx (pc' := 255) (hb hby at_251) (by decide) (by decide) ?_
    refine own_dload X141 hx (pc' := 257) rfl (hb hby at_255) rfl ?_
    refine own_dload X141 hx (pc' := 259) rfl (hb hby at_257) rfl ?_
    refine own_dcmp X141 hx (v := (-1 : Int32)) (pc' := 260) rfl (hb hby at_259) (own_dlt zs zs2 (own_incr hcn.1 hcm.2 hth.1 a2) _) ?_
    refine own_ifF X141 hx (pc' := 263) rfl (hb hby at_260) (XT.i0_ge_f (by decide)) ?_
    refine own_iconst X141 hx (v := (1 : Int32)) (pc' := 264) rfl (hb hby at_263) rfl ?_
    refine own_goto X141 hx (pc' := 268) (hb hby at_264) (by decide) (by decide) ?_
    refine own_icmpF X141 hx (pc' := 271) rfl (hb hby at_268) (XT.ii_ne_f (by decide)) ?_
    refine own_iload X141 hx (pc' := 273) rfl (hb hby at_271) rfl ?_
    refine own_iload X141 hx (pc' := 275) rfl (hb hby at_273) rfl ?_
    refine own_icmpT X141 hx (pc' := 282) (hb hby at_275) (XT.ii_ne_t a3) (by decide) (by decide) ?_
    refine own_iconst X141 hx (v := (0 : Int32)) (pc' := 283) rfl (hb hby at_282) rfl ?_
    refine own_dload X141 hx (pc' := 285) rfl (hb hby at_283) rfl ?_
    refine own_dload X141 hx (pc' := 287) rfl (hb hby at_285) rfl ?_
    refine own_dcmp X141 hx (v := (-1 : Int32)) (pc' := 288) rfl (hb hby at_287) (own_dlt zs zs2 (own_incr hcn.1 hcm.2 hth.1 a2) _) ?_
    refine own_ifT X141 hx (pc' := 295) (hb hby at_288) (XT.i0_ne_t (by decide)) (by decide) (by decide) ?_
    refine own_iconst X141 hx (v := (0 : Int32)) (pc' := 296) rfl (hb hby at_295) rfl ?_
    refine own_icmpF X141 hx (pc' := 299) rfl (hb hby at_296) (XT.ii_ne_f (by decide)) ?_
    refine own_iconst X141 hx (v := (1 : Int32)) (pc' := 300) rfl (hb hby at_299) rfl ?_
    refine own_goto X141 hx (pc' := 304) (hb hby at_300) (by decide) (by decide) ?_
    refine own_istore X141 hx (Ls' := #[.val (.int p1), .val (.int p2), .val (.int p3), .val (.int p4), .val (.int th), .val (.int cn), .val (.int cm), .val (.double (FP.ddiv (FP.i2d cn) (FP.i2d th))), .second, .val (.double (FP.ddiv (FP.i2d cm) (FP.i2d th))), .second, .val (.double (FP.ddiv (FP.i2d ((2 : Int32) * cn)) (FP.i2d ((2 : Int32) * th)))), .second, .val (.double (FP.ddiv (FP.i2d th) (FP.i2d ((2 : Int32) * th)))), .second, .val (.double (FP.ddiv (FP.i2d cn) (FP.i2d (th + (1 : Int32))))), .second, .val (.int (1 : Int32)), .val (.int (1 : Int32)), .val (.int (1 : Int32)), .val (.int (1 : Int32)), .val (.int (1 : Int32)), .val (.int (1 : Int32)), .unset]) (pc' := 306) rfl (hb hby at_304) rfl ?_
    refine own_dload X141 hx (pc' := 308) rfl (hb hby at_306) rfl ?_
    refine own_dload X141 hx (pc' := 310) rfl (hb hby at_308) rfl ?_
    refine own_dcmp X141 hx (v := (cmpValue (FP.dcmp (FP.ddiv (FP.i2d cn) (FP.i2d (th + (1 : Int32)))) (FP.ddiv (FP.i2d cn) (FP.i2d th))) .g)) (pc' := 311) rfl (hb hby at_310) rfl ?_
    refine own_ifF X141 hx (pc' := 314) rfl (hb hby at_311) (XT.i0_gt_f (own_dle zw zs (own_wide hcn.2 hth.1 hth.2) _)) ?_
    refine own_iconst X141 hx (v := (1 : Int32)) (pc' := 315) rfl (hb hby at_314) rfl ?_
    refine own_goto X141 hx (pc' := 319) (hb hby at_315) (by decide) (by decide) ?_
    refine own_istore X141 hx (Ls' := #[.val (.int p1), .val (.int p2), .val (.int p3), .val (.int p4), .val (.int th), .val (.int cn), .val (.int cm), .val (.double (FP.ddiv (FP.i2d cn) (FP.i2d th))), .second, .val (.double (FP.ddiv (FP.i2d cm) (FP.i2d th))), .second, .val (.double (FP.ddiv (FP.i2d ((2 : Int32) * cn)) (FP.i2d ((2 : Int32) * th)))), .second, .val (.double (FP.ddiv (FP.i2d th) (FP.i2d ((2 : Int32) * th)))), .second, .val (.double (FP.ddiv (FP.i2d cn) (FP.i2d (th + (1 : Int32))))), .second, .val (.int (1 : Int32)), .val (.int (1 : Int32)), .val (.int (1 : Int32)), .val (.int (1 : Int32)), .val (.int (1 : Int32)), .val (.int (1 : Int32)), .val (.int (1 : Int32))]) (pc' := 321) rfl (hb hby at_319) rfl ?_
    refine own_iload X141 hx (pc' := 323) rfl (hb hby at_321) rfl ?_
    refine own_ifF X141 hx (pc' := 326) rfl (hb hby at_323) (XT.i0_eq_f (by decide)) ?_
    refine own_iload X141 hx (pc' := 328) rfl (hb hby at_326) rfl ?_
    refine own_ifF X141 hx (pc' := 331) rfl (hb hby at_328) (XT.i0_eq_f (by decide)) ?_
    refine own_iload X141 hx (pc' := 333) rfl (hb hby at_331) rfl ?_
    refine own_ifF X141 hx (pc' := 336) rfl (hb hby at_333) (XT.i0_eq_f (by decide)) ?_
    refine own_iload X141 hx (pc' := 338) rfl (hb hby at_336) rfl ?_
    refine own_ifF X141 hx (pc' := 341) rfl (hb hby at_338) (XT.i0_eq_f (by decide)) ?_
    refine own_iload X141 hx (pc' := 343) rfl (hb hby at_341) rfl ?_
    refine own_ifF X141 hx (pc' := 346) rfl (hb hby at_343) (XT.i0_eq_f (by decide)) ?_
    refine own_iload X141 hx (pc' := 348) rfl (hb hby at_346) rfl ?_
    refine own_ifF X141 hx (pc' := 351) rfl (hb hby at_348) (XT.i0_eq_f (by decide)) ?_
    refine own_iload X141 hx (pc' := 353) rfl (hb hby at_351) rfl ?_
    refine own_ifF X141 hx (pc' := 356) rfl (hb hby at_353) (XT.i0_eq_f (by decide)) ?_
    refine own_iconst X141 hx (v := (1 : Int32)) (pc' := 357) rfl (hb hby at_356) rfl ?_
    refine own_goto X141 hx (pc' := 361) (hb hby at_357) (by decide) (by decide) ?_
    refine own_zret X141 hx hlk hret (by simp) (hb hby at_361) (by decide) (by decide) ?_
    rw [e141]
    exact ⟨rfl, M141⟩
  by_cases a3 : cn = cm
  · have a4 := a3
    refine own_dconst0 X141 hx (v := FP.dconst0) (pc' := 126) rfl (hb hby at_125) rfl ?_
    refine own_dload X141 hx (pc' := 128) rfl (hb hby at_126) rfl ?_
    refine own_dcmp X141 hx (v := (-1 : Int32)) (pc' := 129) rfl (hb hby at_128) (own_dlt own_Z0 zs (q2 a0) _) ?_
    refine own_ifF X141 hx (pc' := 132) rfl (hb hby at_129) (XT.i0_gt_f (by decide)) ?_
    refine own_dload X141 hx (pc' := 134) rfl (hb hby at_132) rfl ?_
    refine own_dconst1 X141 hx (v := FP.dconst1) (pc' := 135) rfl (hb hby at_134) rfl ?_
    refine own_dcmp X141 hx (v := (-1 : Int32)) (pc' := 136) rfl (hb hby at_135) (own_dlt zs own_Z1 (q4 a1) _) ?_
    refine own_ifF X141 hx (pc' := 139) rfl (hb hby at_136) (XT.i0_gt_f (by decide)) ?_
    refine own_iconst X141 hx (v := (1 : Int32)) (pc' := 140) rfl (hb hby at_139) rfl ?_
    refine own_goto X141 hx (pc' := 144) (hb hby at_140) (by decide) (by decide) ?_
    refine own_istore X141 hx (Ls' := #[.val (.int p1), .val (.int p2), .val (.int p3), .val (.int p4), .val (.int th), .val (.int cn), .val (.int cm), .val (.double (FP.ddiv (FP.i2d cn) (FP.i2d th))), .second, .val (.double (FP.ddiv (FP.i2d cm) (FP.i2d th))), .second, .val (.double (FP.ddiv (FP.i2d ((2 : Int32) * cn)) (FP.i2d ((2 : Int32) * th)))), .second, .val (.double (FP.ddiv (FP.i2d th) (FP.i2d ((2 : Int32) * th)))), .second, .val (.double (FP.ddiv (FP.i2d cn) (FP.i2d (th + (1 : Int32))))), .second, .val (.int (1 : Int32)), .unset, .unset, .unset, .unset, .unset, .unset]) (pc' := 146) rfl (hb hby at_144) rfl ?_
    refine own_dload X141 hx (pc' := 148) rfl (hb hby at_146) rfl ?_
    refine own_dconst0 X141 hx (v := FP.dconst0) (pc' := 149) rfl (hb hby at_148) rfl ?_
    refine own_dcmp X141 hx (v := (1 : Int32)) (pc' := 150) rfl (hb hby at_149) (own_dgt zs own_Z0 (q2 a0) _) ?_
    refine own_ifT X141 hx (pc' := 157) (hb hby at_150) (XT.i0_ne_t (by decide)) (by decide) (by decide) ?_
    refine own_iconst X141 hx (v := (0 : Int32)) (pc' := 158) rfl (hb hby at_157) rfl ?_
    refine own_iload X141 hx (pc' := 160) rfl (hb hby at_158) rfl ?_
    refine own_ifT X141 hx (pc' := 167) (hb hby at_160) (XT.i0_ne_t a0) (by decide) (by decide) ?_
    refine own_iconst X141 hx (v := (0 : Int32)) (pc' := 168) rfl (hb hby at_167) rfl ?_
    refine own_icmpF X141 hx (pc' := 171) rfl (hb hby at_168) (XT.ii_ne_f (by decide)) ?_
    refine own_iconst X141 hx (v := (1 : Int32)) (pc' := 172) rfl (hb hby at_171) rfl ?_
    refine own_goto X141 hx (pc' := 176) (hb hby at_172) (by decide) (by decide) ?_
    refine own_istore X141 hx (Ls' := #[.val (.int p1), .val (.int p2), .val (.int p3), .val (.int p4), .val (.int th), .val (.int cn), .val (.int cm), .val (.double (FP.ddiv (FP.i2d cn) (FP.i2d th))), .second, .val (.double (FP.ddiv (FP.i2d cm) (FP.i2d th))), .second, .val (.double (FP.ddiv (FP.i2d ((2 : Int32) * cn)) (FP.i2d ((2 : Int32) * th)))), .second, .val (.double (FP.ddiv (FP.i2d th) (FP.i2d ((2 : Int32) * th)))), .second, .val (.double (FP.ddiv (FP.i2d cn) (FP.i2d (th + (1 : Int32))))), .second, .val (.int (1 : Int32)), .val (.int (1 : Int32)), .unset, .unset, .unset, .unset, .unset]) (pc' := 178) rfl (hb hby at_176) rfl ?_
    refine own_dload X141 hx (pc' := 180) rfl (hb hby at_178) rfl ?_
    refine own_dconst1 X141 hx (v := FP.dconst1) (pc' := 181) rfl (hb hby at_180) rfl ?_
    refine own_dcmp X141 hx (v := (-1 : Int32)) (pc' := 182) rfl (hb hby at_181) (own_dlt zs own_Z1 (q4 a1) _) ?_
    refine own_ifT X141 hx (pc' := 189) (hb hby at_182) (XT.i0_ne_t (by decide)) (by decide) (by decide) ?_
    refine own_iconst X141 hx (v := (0 : Int32)) (pc' := 190) rfl (hb hby at_189) rfl ?_
    refine own_iload X141 hx (pc' := 192) rfl (hb hby at_190) rfl ?_
    refine own_iload X141 hx (pc' := 194) rfl (hb hby at_192) rfl ?_
    refine own_icmpT X141 hx (pc' := 201) (hb hby at_194) (XT.ii_ne_t a1) (by decide) (by decide) ?_
    refine own_iconst X141 hx (v := (0 : Int32)) (pc' := 202) rfl (hb hby at_201) rfl ?_
    refine own_icmpF X141 hx (pc' := 205) rfl (hb hby at_202) (XT.ii_ne_f (by decide)) ?_
    refine own_iconst X141 hx (v := (1 : Int32)) (pc' := 206) rfl (hb hby at_205) rfl ?_
    refine own_goto X141 hx (pc' := 210) (hb hby at_206) (by decide) (by decide) ?_
    refine own_istore X141 hx (Ls' := #[.val (.int p1), .val (.int p2), .val (.int p3), .val (.int p4), .val (.int th), .val (.int cn), .val (.int cm), .val (.double (FP.ddiv (FP.i2d cn) (FP.i2d th))), .second, .val (.double (FP.ddiv (FP.i2d cm) (FP.i2d th))), .second, .val (.double (FP.ddiv (FP.i2d ((2 : Int32) * cn)) (FP.i2d ((2 : Int32) * th)))), .second, .val (.double (FP.ddiv (FP.i2d th) (FP.i2d ((2 : Int32) * th)))), .second, .val (.double (FP.ddiv (FP.i2d cn) (FP.i2d (th + (1 : Int32))))), .second, .val (.int (1 : Int32)), .val (.int (1 : Int32)), .val (.int (1 : Int32)), .unset, .unset, .unset, .unset]) (pc' := 212) rfl (hb hby at_210) rfl ?_
    refine own_dload X141 hx (pc' := 214) rfl (hb hby at_212) rfl ?_
    refine own_dload X141 hx (pc' := 216) rfl (hb hby at_214) rfl ?_
    refine own_dcmp X141 hx (v := (0 : Int32)) (pc' := 217) rfl (hb hby at_216) (own_deq zsc zs rfl _) ?_
    refine own_ifF X141 hx (pc' := 220) rfl (hb hby at_217) (XT.i0_ne_f (by decide)) ?_
    refine own_iconst X141 hx (v := (1 : Int32)) (pc' := 221) rfl (hb hby at_220) rfl ?_
    refine own_goto X141 hx (pc' := 225) (hb hby at_221) (by decide) (by decide) ?_
    refine own_istore X141 hx (Ls' := #[.val (.int p1), .val (.int p2), .val (.int p3), .val (.int p4), .val (.int th), .val (.int cn), .val (.int cm), .val (.double (FP.ddiv (FP.i2d cn) (FP.i2d th))), .second, .val (.double (FP.ddiv (FP.i2d cm) (FP.i2d th))), .second, .val (.double (FP.ddiv (FP.i2d ((2 : Int32) * cn)) (FP.i2d ((2 : Int32) * th)))), .second, .val (.double (FP.ddiv (FP.i2d th) (FP.i2d ((2 : Int32) * th)))), .second, .val (.double (FP.ddiv (FP.i2d cn) (FP.i2d (th + (1 : Int32))))), .second, .val (.int (1 : Int32)), .val (.int (1 : Int32)), .val (.int (1 : Int32)), .val (.int (1 : Int32)), .unset, .unset, .unset]) (pc' := 227) rfl (hb hby at_225) rfl ?_
    refine own_dload X141 hx (pc' := 229) rfl (hb hby at_227) rfl ?_
    refine own_ldcD X141 hx hZ hown (hw _ (List.mem_of_getElem? (i := 31) rfl)) (pc' := 232) rfl (hb hby at_229) ?_
    refine own_dcmp X141 hx (v := (0 : Int32)) (pc' := 233) rfl (hb hby at_232) (own_deq zh own_Zh rfl _) ?_
    refine own_ifF X141 hx (pc' := 236) rfl (hb hby at_233) (XT.i0_ne_f (by decide)) ?_
    refine own_iconst X141 hx (v := (1 : Int32)) (pc' := 237) rfl (hb hby at_236) rfl ?_
    refine own_goto X141 hx (pc' := 241) (hb hby at_237) (by decide) (by decide) ?_
    refine own_istore X141 hx (Ls' := #[.val (.int p1), .val (.int p2), .val (.int p3), .val (.int p4), .val (.int th), .val (.int cn), .val (.int cm), .val (.double (FP.ddiv (FP.i2d cn) (FP.i2d th))), .second, .val (.double (FP.ddiv (FP.i2d cm) (FP.i2d th))), .second, .val (.double (FP.ddiv (FP.i2d ((2 : Int32) * cn)) (FP.i2d ((2 : Int32) * th)))), .second, .val (.double (FP.ddiv (FP.i2d th) (FP.i2d ((2 : Int32) * th)))), .second, .val (.double (FP.ddiv (FP.i2d cn) (FP.i2d (th + (1 : Int32))))), .second, .val (.int (1 : Int32)), .val (.int (1 : Int32)), .val (.int (1 : Int32)), .val (.int (1 : Int32)), .val (.int (1 : Int32)), .unset, .unset]) (pc' := 243) rfl (hb hby at_241) rfl ?_
    refine own_iload X141 hx (pc' := 245) rfl (hb hby at_243) rfl ?_
    refine own_iload X141 hx (pc' := 247) rfl (hb hby at_245) rfl ?_
    refine own_icmpT X141 hx (pc' := 254) (hb hby at_247) (XT.ii_ge_t a2) (by decide) (by decide) ?_
    refine own_iconst X141 hx (v := (0 : Int32)) (pc' := 255) rfl (hb hby at_254) rfl ?_
    refine own_dload X141 hx (pc' := 257) rfl (hb hby at_255) rfl ?_
    refine own_dload X141 hx (pc' := 259) rfl (hb hby at_257) rfl ?_
    refine own_dcmp X141 hx (v := (0 : Int32)) (pc' := 260) rfl (hb hby at_259) (own_deq zs zs2 (by rw [a3]) _) ?_
    refine own_ifT X141 hx (pc' := 267) (hb hby at_260) (XT.i0_ge_t (by decide)) (by decide) (by decide) ?_
    refine own_iconst X141 hx (v := (0 : Int32)) (pc' := 268) rfl (hb hby at_267) rfl ?_
    refine own_icmpF X141 hx (pc' := 271) rfl (hb hby at_268) (XT.ii_ne_f (by decide)) ?_
    refine own_iload X141 hx (pc' := 273) rfl (hb hby at_271) rfl ?_
    refine own_iload X141 hx (pc' := 275) rfl (hb hby at_273) rfl ?_
    refine own_icmpF X141 hx (pc' := 278) rfl (hb hby at_275) (XT.ii_ne_f a3) ?_
    refine own_iconst X141 hx (v := (1 : Int32)) (pc' := 279) rfl (hb hby at_278) rfl ?_
    refine own_goto X141 hx (pc' := 283) (hb hby at_279) (by decide) (by decide) ?_
    refine own_dload X141 hx (pc' := 285) rfl (hb hby at_283) rfl ?_
    refine own_dload X141 hx (pc' := 287) rfl (hb hby at_285) rfl ?_
    refine own_dcmp X141 hx (v := (0 : Int32)) (pc' := 288) rfl (hb hby at_287) (own_deq zs zs2 (by rw [a3]) _) ?_
    refine own_ifF X141 hx (pc' := 291) rfl (hb hby at_288) (XT.i0_ne_f (by decide)) ?_
    refine own_iconst X141 hx (v := (1 : Int32)) (pc' := 292) rfl (hb hby at_291) rfl ?_
    refine own_goto X141 hx (pc' := 296) (hb hby at_292) (by decide) (by decide) ?_
    refine own_icmpF X141 hx (pc' := 299) rfl (hb hby at_296) (XT.ii_ne_f (by decide)) ?_
    refine own_iconst X141 hx (v := (1 : Int32)) (pc' := 300) rfl (hb hby at_299) rfl ?_
    refine own_goto X141 hx (pc' := 304) (hb hby at_300) (by decide) (by decide) ?_
    refine own_istore X141 hx (Ls' := #[.val (.int p1), .val (.int p2), .val (.int p3), .val (.int p4), .val (.int th), .val (.int cn), .val (.int cm), .val (.double (FP.ddiv (FP.i2d cn) (FP.i2d th))), .second, .val (.double (FP.ddiv (FP.i2d cm) (FP.i2d th))), .second, .val (.double (FP.ddiv (FP.i2d ((2 : Int32) * cn)) (FP.i2d ((2 : Int32) * th)))), .second, .val (.double (FP.ddiv (FP.i2d th) (FP.i2d ((2 : Int32) * th)))), .second, .val (.double (FP.ddiv (FP.i2d cn) (FP.i2d (th + (1 : Int32))))), .second, .val (.int (1 : Int32)), .val (.int (1 : Int32)), .val (.int (1 : Int32)), .val (.int (1 : Int32)), .val (.int (1 : Int32)), .val (.int (1 : Int32)), .unset]) (pc' := 306) rfl (hb hby at_304) rfl ?_
    refine own_dload X141 hx (pc' := 308) rfl (hb hby at_306) rfl ?_
    refine own_dload X141 hx (pc' := 310) rfl (hb hby at_308) rfl ?_
    refine own_dcmp X141 hx (v := (cmpValue (FP.dcmp (FP.ddiv (FP.i2d cn) (FP.i2d (th + (1 : Int32)))) (FP.ddiv (FP.i2d cn) (FP.i2d th))) .g)) (pc' := 311) rfl (hb hby at_310) rfl ?_
    refine own_ifF X141 hx (pc' := 314) rfl (hb hby at_311) (XT.i0_gt_f (own_dle zw zs (own_wide hcn.2 hth.1 hth.2) _)) ?_
    refine own_iconst X141 hx (v := (1 : Int32)) (pc' := 315) rfl (hb hby at_314) rfl ?_
    refine own_goto X141 hx (pc' := 319) (hb hby at_315) (by decide) (by decide) ?_
    refine own_istore X141 hx (Ls' := #[.val (.int p1), .val (.int p2), .val (.int p3), .val (.int p4), .val (.int th), .val (.int cn), .val (.int cm), .val (.double (FP.ddiv (FP.i2d cn) (FP.i2d th))), .second, .val (.double (FP.ddiv (FP.i2d cm) (FP.i2d th))), .second, .val (.double (FP.ddiv (FP.i2d ((2 : Int32) * cn)) (FP.i2d ((2 : Int32) * th)))), .second, .val (.double (FP.ddiv (FP.i2d th) (FP.i2d ((2 : Int32) * th)))), .second, .val (.double (FP.ddiv (FP.i2d cn) (FP.i2d (th + (1 : Int32))))), .second, .val (.int (1 : Int32)), .val (.int (1 : Int32)), .val (.int (1 : Int32)), .val (.int (1 : Int32)), .val (.int (1 : Int32)), .val (.int (1 : Int32)), .val (.int (1 : Int32))]) (pc' := 321) rfl (hb hby at_319) rfl ?_
    refine own_iload X141 hx (pc' := 323) rfl (hb hby at_321) rfl ?_
    refine own_ifF X141 hx (pc' := 326) rfl (hb hby at_323) (XT.i0_eq_f (by decide)) ?_
    refine own_iload X141 hx (pc' := 328) rfl (hb hby at_326) rfl ?_
    refine own_ifF X141 hx (pc' := 331) rfl (hb hby at_328) (XT.i0_eq_f (by decide)) ?_
    refine own_iload X141 hx (pc' := 333) rfl (hb hby at_331) rfl ?_
    refine own_ifF X141 hx (pc' := 336) rfl (hb hby at_333) (XT.i0_eq_f (by decide)) ?_
    refine own_iload X141 hx (pc' := 338) rfl (hb hby at_336) rfl ?_
    refine own_ifF X141 hx (pc' := 341) rfl (hb hby at_338) (XT.i0_eq_f (by decide)) ?_
    refine own_iload X141 hx (pc' := 343) rfl (hb hby at_341) rfl ?_
    refine own_ifF X141 hx (pc' := 346) rfl (hb hby at_343) (XT.i0_eq_f (by decide)) ?_
    refine own_iload X141 hx (pc' := 348) rfl (hb hby at_346) rfl ?_
    refine own_ifF X141 hx (pc' := 351) rfl (hb hby at_348) (XT.i0_eq_f (by decide)) ?_
    refine own_iload X141 hx (pc' := 353) rfl (hb hby at_351) rfl ?_
    refine own_ifF X141 hx (pc' := 356) rfl (hb hby at_353) (XT.i0_eq_f (by decide)) ?_
    refine own_iconst X141 hx (v := (1 : Int32)) (pc' := 357) rfl (hb hby at_356) rfl ?_
    refine own_goto X141 hx (pc' := 361) (hb hby at_357) (by decide) (by decide) ?_
    refine own_zret X141 hx hlk hret (by simp) (hb hby at_361) (by decide) (by decide) ?_
    rw [e141]
    exact ⟨rfl, M141⟩
  have a5 : cm < cn := by
    rw [Int32.lt_iff_toInt_lt] at a2 ⊢
    have : ¬ cn.toInt = cm.toInt := fun q => a3 (Int32.toInt_inj.mp q)
    omega
  refine own_dconst0 X141 hx (v := FP.dconst0) (pc' := 126) rfl (hb hby at_125) rfl ?_
  refine own_dload X141 hx (pc' := 128) rfl (hb hby at_126) rfl ?_
  refine own_dcmp X141 hx (v := (-1 : Int32)) (pc' := 129) rfl (hb hby at_128) (own_dlt own_Z0 zs (q2 a0) _) ?_
  refine own_ifF X141 hx (pc' := 132) rfl (hb hby at_129) (XT.i0_gt_f (by decide)) ?_
  refine own_dload X141 hx (pc' := 134) rfl (hb hby at_132) rfl ?_
  refine own_dconst1 X141 hx (v := FP.dconst1) (pc' := 135) rfl (hb hby at_134) rfl ?_
  refine own_dcmp X141 hx (v := (-1 : Int32)) (pc' := 136) rfl (hb hby at_135) (own_dlt zs own_Z1 (q4 a1) _) ?_
  refine own_ifF X141 hx (pc' := 139) rfl (hb hby at_136) (XT.i0_gt_f (by decide)) ?_
  refine own_iconst X141 hx (v := (1 : Int32)) (pc' := 140) rfl (hb hby at_139) rfl ?_
  refine own_goto X141 hx (pc' := 144) (hb hby at_140) (by decide) (by decide) ?_
  refine own_istore X141 hx (Ls' := #[.val (.int p1), .val (.int p2), .val (.int p3), .val (.int p4), .val (.int th), .val (.int cn), .val (.int cm), .val (.double (FP.ddiv (FP.i2d cn) (FP.i2d th))), .second, .val (.double (FP.ddiv (FP.i2d cm) (FP.i2d th))), .second, .val (.double (FP.ddiv (FP.i2d ((2 : Int32) * cn)) (FP.i2d ((2 : Int32) * th)))), .second, .val (.double (FP.ddiv (FP.i2d th) (FP.i2d ((2 : Int32) * th)))), .second, .val (.double (FP.ddiv (FP.i2d cn) (FP.i2d (th + (1 : Int32))))), .second, .val (.int (1 : Int32)), .unset, .unset, .unset, .unset, .unset, .unset]) (pc' := 146) rfl (hb hby at_144) rfl ?_
  refine own_dload X141 hx (pc' := 148) rfl (hb hby at_146) rfl ?_
  refine own_dconst0 X141 hx (v := FP.dconst0) (pc' := 149) rfl (hb hby at_148) rfl ?_
  refine own_dcmp X141 hx (v := (1 : Int32)) (pc' := 150) rfl (hb hby at_149) (own_dgt zs own_Z0 (q2 a0) _) ?_
  refine own_ifT X141 hx (pc' := 157) (hb hby at_150) (XT.i0_ne_t (by decide)) (by decide) (by decide) ?_
  refine own_iconst X141 hx (v := (0 : Int32)) (pc' := 158) rfl (hb hby at_157) rfl ?_
  refine own_iload X141 hx (pc' := 160) rfl (hb hby at_158) rfl ?_
  refine own_ifT X141 hx (pc' := 167) (hb hby at_160) (XT.i0_ne_t a0) (by decide) (by decide) ?_
  refine own_iconst X141 hx (v := (0 : Int32)) (pc' := 168) rfl (hb hby at_167) rfl ?_
  refine own_icmpF X141 hx (pc' := 171) rfl (hb hby at_168) (XT.ii_ne_f (by decide)) ?_
  refine own_iconst X141 hx (v := (1 : Int32)) (pc' := 172) rfl (hb hby at_171) rfl ?_
  refine own_goto X141 hx (pc' := 176) (hb hby at_172) (by decide) (by decide) ?_
  refine own_istore X141 hx (Ls' := #[.val (.int p1), .val (.int p2), .val (.int p3), .val (.int p4), .val (.int th), .val (.int cn), .val (.int cm), .val (.double (FP.ddiv (FP.i2d cn) (FP.i2d th))), .second, .val (.double (FP.ddiv (FP.i2d cm) (FP.i2d th))), .second, .val (.double (FP.ddiv (FP.i2d ((2 : Int32) * cn)) (FP.i2d ((2 : Int32) * th)))), .second, .val (.double (FP.ddiv (FP.i2d th) (FP.i2d ((2 : Int32) * th)))), .second, .val (.double (FP.ddiv (FP.i2d cn) (FP.i2d (th + (1 : Int32))))), .second, .val (.int (1 : Int32)), .val (.int (1 : Int32)), .unset, .unset, .unset, .unset, .unset]) (pc' := 178) rfl (hb hby at_176) rfl ?_
  refine own_dload X141 hx (pc' := 180) rfl (hb hby at_178) rfl ?_
  refine own_dconst1 X141 hx (v := FP.dconst1) (pc' := 181) rfl (hb hby at_180) rfl ?_
  refine own_dcmp X141 hx (v := (-1 : Int32)) (pc' := 182) rfl (hb hby at_181) (own_dlt zs own_Z1 (q4 a1) _) ?_
  refine own_ifT X141 hx (pc' := 189) (hb hby at_182) (XT.i0_ne_t (by decide)) (by decide) (by decide) ?_
  refine own_iconst X141 hx (v := (0 : Int32)) (pc' := 190) rfl (hb hby at_189) rfl ?_
  refine own_iload X141 hx (pc' := 192) rfl (hb hby at_190) rfl ?_
  refine own_iload X141 hx (pc' := 194) rfl (hb hby at_192) rfl ?_
  refine own_icmpT X141 hx (pc' := 201) (hb hby at_194) (XT.ii_ne_t a1) (by decide) (by decide) ?_
  refine own_iconst X141 hx (v := (0 : Int32)) (pc' := 202) rfl (hb hby at_201) rfl ?_
  refine own_icmpF X141 hx (pc' := 205) rfl (hb hby at_202) (XT.ii_ne_f (by decide)) ?_
  refine own_iconst X141 hx (v := (1 : Int32)) (pc' := 206) rfl (hb hby at_205) rfl ?_
  refine own_goto X141 hx (pc' := 210) (hb hby at_206) (by decide) (by decide) ?_
  refine own_istore X141 hx (Ls' := #[.val (.int p1), .val (.int p2), .val (.int p3), .val (.int p4), .val (.int th), .val (.int cn), .val (.int cm), .val (.double (FP.ddiv (FP.i2d cn) (FP.i2d th))), .second, .val (.double (FP.ddiv (FP.i2d cm) (FP.i2d th))), .second, .val (.double (FP.ddiv (FP.i2d ((2 : Int32) * cn)) (FP.i2d ((2 : Int32) * th)))), .second, .val (.double (FP.ddiv (FP.i2d th) (FP.i2d ((2 : Int32) * th)))), .second, .val (.double (FP.ddiv (FP.i2d cn) (FP.i2d (th + (1 : Int32))))), .second, .val (.int (1 : Int32)), .val (.int (1 : Int32)), .val (.int (1 : Int32)), .unset, .unset, .unset, .unset]) (pc' := 212) rfl (hb hby at_210) rfl ?_
  refine own_dload X141 hx (pc' := 214) rfl (hb hby at_212) rfl ?_
  refine own_dload X141 hx (pc' := 216) rfl (hb hby at_214) rfl ?_
  refine own_dcmp X141 hx (v := (0 : Int32)) (pc' := 217) rfl (hb hby at_216) (own_deq zsc zs rfl _) ?_
  refine own_ifF X141 hx (pc' := 220) rfl (hb hby at_217) (XT.i0_ne_f (by decide)) ?_
  refine own_iconst X141 hx (v := (1 : Int32)) (pc' := 221) rfl (hb hby at_220) rfl ?_
  refine own_goto X141 hx (pc' := 225) (hb hby at_221) (by decide) (by decide) ?_
  refine own_istore X141 hx (Ls' := #[.val (.int p1), .val (.int p2), .val (.int p3), .val (.int p4), .val (.int th), .val (.int cn), .val (.int cm), .val (.double (FP.ddiv (FP.i2d cn) (FP.i2d th))), .second, .val (.double (FP.ddiv (FP.i2d cm) (FP.i2d th))), .second, .val (.double (FP.ddiv (FP.i2d ((2 : Int32) * cn)) (FP.i2d ((2 : Int32) * th)))), .second, .val (.double (FP.ddiv (FP.i2d th) (FP.i2d ((2 : Int32) * th)))), .second, .val (.double (FP.ddiv (FP.i2d cn) (FP.i2d (th + (1 : Int32))))), .second, .val (.int (1 : Int32)), .val (.int (1 : Int32)), .val (.int (1 : Int32)), .val (.int (1 : Int32)), .unset, .unset, .unset]) (pc' := 227) rfl (hb hby at_225) rfl ?_
  refine own_dload X141 hx (pc' := 229) rfl (hb hby at_227) rfl ?_
  refine own_ldcD X141 hx hZ hown (hw _ (List.mem_of_getElem? (i := 31) rfl)) (pc' := 232) rfl (hb hby at_229) ?_
  refine own_dcmp X141 hx (v := (0 : Int32)) (pc' := 233) rfl (hb hby at_232) (own_deq zh own_Zh rfl _) ?_
  refine own_ifF X141 hx (pc' := 236) rfl (hb hby at_233) (XT.i0_ne_f (by decide)) ?_
  refine own_iconst X141 hx (v := (1 : Int32)) (pc' := 237) rfl (hb hby at_236) rfl ?_
  refine own_goto X141 hx (pc' := 241) (hb hby at_237) (by decide) (by decide) ?_
  refine own_istore X141 hx (Ls' := #[.val (.int p1), .val (.int p2), .val (.int p3), .val (.int p4), .val (.int th), .val (.int cn), .val (.int cm), .val (.double (FP.ddiv (FP.i2d cn) (FP.i2d th))), .second, .val (.double (FP.ddiv (FP.i2d cm) (FP.i2d th))), .second, .val (.double (FP.ddiv (FP.i2d ((2 : Int32) * cn)) (FP.i2d ((2 : Int32) * th)))), .second, .val (.double (FP.ddiv (FP.i2d th) (FP.i2d ((2 : Int32) * th)))), .second, .val (.double (FP.ddiv (FP.i2d cn) (FP.i2d (th + (1 : Int32))))), .second, .val (.int (1 : Int32)), .val (.int (1 : Int32)), .val (.int (1 : Int32)), .val (.int (1 : Int32)), .val (.int (1 : Int32)), .unset, .unset]) (pc' := 243) rfl (hb hby at_241) rfl ?_
  refine own_iload X141 hx (pc' := 245) rfl (hb hby at_243) rfl ?_
  refine own_iload X141 hx (pc' := 247) rfl (hb hby at_245) rfl ?_
  refine own_icmpT X141 hx (pc' := 254) (hb hby at_247) (XT.ii_ge_t a2) (by decide) (by decide) ?_
  refine own_iconst X141 hx (v := (0 : Int32)) (pc' := 255) rfl (hb hby at_254) rfl ?_
  refine own_dload X141 hx (pc' := 257) rfl (hb hby at_255) rfl ?_
  refine own_dload X141 hx (pc' := 259) rfl (hb hby at_257) rfl ?_
  refine own_dcmp X141 hx (v := (1 : Int32)) (pc' := 260) rfl (hb hby at_259) (own_dgt zs zs2 (own_incr hcm.1 hcn.2 hth.1 a5) _) ?_
  refine own_ifT X141 hx (pc' := 267) (hb hby at_260) (XT.i0_ge_t (by decide)) (by decide) (by decide) ?_
  refine own_iconst X141 hx (v := (0 : Int32)) (pc' := 268) rfl (hb hby at_267) rfl ?_
  refine own_icmpF X141 hx (pc' := 271) rfl (hb hby at_268) (XT.ii_ne_f (by decide)) ?_
  refine own_iload X141 hx (pc' := 273) rfl (hb hby at_271) rfl ?_
  refine own_iload X141 hx (pc' := 275) rfl (hb hby at_273) rfl ?_
  refine own_icmpT X141 hx (pc' := 282) (hb hby at_275) (XT.ii_ne_t a3) (by decide) (by decide) ?_
  refine own_iconst X141 hx (v := (0 : Int32)) (pc' := 283) rfl (hb hby at_282) rfl ?_
  refine own_dload X141 hx (pc' := 285) rfl (hb hby at_283) rfl ?_
  refine own_dload X141 hx (pc' := 287) rfl (hb hby at_285) rfl ?_
  refine own_dcmp X141 hx (v := (1 : Int32)) (pc' := 288) rfl (hb hby at_287) (own_dgt zs zs2 (own_incr hcm.1 hcn.2 hth.1 a5) _) ?_
  refine own_ifT X141 hx (pc' := 295) (hb hby at_288) (XT.i0_ne_t (by decide)) (by decide) (by decide) ?_
  refine own_iconst X141 hx (v := (0 : Int32)) (pc' := 296) rfl (hb hby at_295) rfl ?_
  refine own_icmpF X141 hx (pc' := 299) rfl (hb hby at_296) (XT.ii_ne_f (by decide)) ?_
  refine own_iconst X141 hx (v := (1 : Int32)) (pc' := 300) rfl (hb hby at_299) rfl ?_
  refine own_goto X141 hx (pc' := 304) (hb hby at_300) (by decide) (by decide) ?_
  refine own_istore X141 hx (Ls' := #[.val (.int p1), .val (.int p2), .val (.int p3), .val (.int p4), .val (.int th), .val (.int cn), .val (.int cm), .val (.double (FP.ddiv (FP.i2d cn) (FP.i2d th))), .second, .val (.double (FP.ddiv (FP.i2d cm) (FP.i2d th))), .second, .val (.double (FP.ddiv (FP.i2d ((2 : Int32) * cn)) (FP.i2d ((2 : Int32) * th)))), .second, .val (.double (FP.ddiv (FP.i2d th) (FP.i2d ((2 : Int32) * th)))), .second, .val (.double (FP.ddiv (FP.i2d cn) (FP.i2d (th + (1 : Int32))))), .second, .val (.int (1 : Int32)), .val (.int (1 : Int32)), .val (.int (1 : Int32)), .val (.int (1 : Int32)), .val (.int (1 : Int32)), .val (.int (1 : Int32)), .unset]) (pc' := 306) rfl (hb hby at_304) rfl ?_
  refine own_dload X141 hx (pc' := 308) rfl (hb hby at_306) rfl ?_
  refine own_dload X141 hx (pc' := 310) rfl (hb hby at_308) rfl ?_
  refine own_dcmp X141 hx (v := (cmpValue (FP.dcmp (FP.ddiv (FP.i2d cn) (FP.i2d (th + (1 : Int32)))) (FP.ddiv (FP.i2d cn) (FP.i2d th))) .g)) (pc' := 311) rfl (hb hby at_310) rfl ?_
  refine own_ifF X141 hx (pc' := 314) rfl (hb hby at_311) (XT.i0_gt_f (own_dle zw zs (own_wide hcn.2 hth.1 hth.2) _)) ?_
  refine own_iconst X141 hx (v := (1 : Int32)) (pc' := 315) rfl (hb hby at_314) rfl ?_
  refine own_goto X141 hx (pc' := 319) (hb hby at_315) (by decide) (by decide) ?_
  refine own_istore X141 hx (Ls' := #[.val (.int p1), .val (.int p2), .val (.int p3), .val (.int p4), .val (.int th), .val (.int cn), .val (.int cm), .val (.double (FP.ddiv (FP.i2d cn) (FP.i2d th))), .second, .val (.double (FP.ddiv (FP.i2d cm) (FP.i2d th))), .second, .val (.double (FP.ddiv (FP.i2d ((2 : Int32) * cn)) (FP.i2d ((2 : Int32) * th)))), .second, .val (.double (FP.ddiv (FP.i2d th) (FP.i2d ((2 : Int32) * th)))), .second, .val (.double (FP.ddiv (FP.i2d cn) (FP.i2d (th + (1 : Int32))))), .second, .val (.int (1 : Int32)), .val (.int (1 : Int32)), .val (.int (1 : Int32)), .val (.int (1 : Int32)), .val (.int (1 : Int32)), .val (.int (1 : Int32)), .val (.int (1 : Int32))]) (pc' := 321) rfl (hb hby at_319) rfl ?_
  refine own_iload X141 hx (pc' := 323) rfl (hb hby at_321) rfl ?_
  refine own_ifF X141 hx (pc' := 326) rfl (hb hby at_323) (XT.i0_eq_f (by decide)) ?_
  refine own_iload X141 hx (pc' := 328) rfl (hb hby at_326) rfl ?_
  refine own_ifF X141 hx (pc' := 331) rfl (hb hby at_328) (XT.i0_eq_f (by decide)) ?_
  refine own_iload X141 hx (pc' := 333) rfl (hb hby at_331) rfl ?_
  refine own_ifF X141 hx (pc' := 336) rfl (hb hby at_333) (XT.i0_eq_f (by decide)) ?_
  refine own_iload X141 hx (pc' := 338) rfl (hb hby at_336) rfl ?_
  refine own_ifF X141 hx (pc' := 341) rfl (hb hby at_338) (XT.i0_eq_f (by decide)) ?_
  refine own_iload X141 hx (pc' := 343) rfl (hb hby at_341) rfl ?_
  refine own_ifF X141 hx (pc' := 346) rfl (hb hby at_343) (XT.i0_eq_f (by decide)) ?_
  refine own_iload X141 hx (pc' := 348) rfl (hb hby at_346) rfl ?_
  refine own_ifF X141 hx (pc' := 351) rfl (hb hby at_348) (XT.i0_eq_f (by decide)) ?_
  refine own_iload X141 hx (pc' := 353) rfl (hb hby at_351) rfl ?_
  refine own_ifF X141 hx (pc' := 356) rfl (hb hby at_353) (XT.i0_eq_f (by decide)) ?_
  refine own_iconst X141 hx (v := (1 : Int32)) (pc' := 357) rfl (hb hby at_356) rfl ?_
  refine own_goto X141 hx (pc' := 361) (hb hby at_357) (by decide) (by decide) ?_
  refine own_zret X141 hx hlk hret (by simp) (hb hby at_361) (by decide) (by decide) ?_
  rw [e141]
  exact ⟨rfl, M141⟩
set_option maxRecDepth 65536 in
set_option maxHeartbeats 40000000 in
theorem comes_1 {Post : Tables → Env → Array Value → State → Outcome → State → Prop} (hpost : ∀ tb e args s v u, (limb_1_1.after args s (.returned v) u = true ∧ limb_1_2.after args s (.returned v) u = true ∧ True) → FrameEnd s (.returned v) u (Jvm.fieldLocs frame_1_writes args s ++ Jvm.arrayLocs frame_1_arrays args s ++ Jvm.staticLocs frame_1_statics s) 24 128 → Post tb e args s (.returned v) u) :
    ArmFor flags0 classFile x code maxLocals ret World_1 tables_1 room_1 Calls_1 rest_1 Pre_1 Post := by
  intro l hfl _ _ p e ha hc hk s m args below hf hA hF happ hP
  obtain ⟨hcalls, hrest, hpre⟩ := hP
  obtain ⟨-, -, -, hnamed, -, -, -, hat⟩ := (Spec.applies_iff hf).mp happ
  obtain ⟨hg, hn⟩ := and_e (Cond.before_iff.mp (show (Jvm.Cond.and given_1 narrow_1).before args s = true from hpre))
  obtain ⟨h1, hg1⟩ := and_e hg
  obtain ⟨w0, w1, w2, w3, rfl⟩ : ∃ w0 w1 w2 w3 : Value, args = #[w0, w1, w2, w3] := by
    have hs : args.size = 4 := by simpa [Cond.value, given_1] using h1
    obtain ⟨L⟩ := args
    match L, hs with
    | [w0, w1, w2, w3], _ => exact ⟨w0, w1, w2, w3, rfl⟩
  have hw := fun d (hd : d ∈ tables_1) => atoms_spec (ws := Jvm.Cond.code x code maxLocals ret :: tables_1) hat d (List.mem_cons_of_mem _ hd)
  have hfit : Fit s := fun {y c} hc i hi => by
    obtain ⟨ha, rfl⟩ := Array.getElem?_eq_some_iff.mp hc
    have q := List.all_eq_true.mp ((Array.all_eq_true_iff_forall_mem.mp hF) _ (Array.getElem_mem ha)) i (List.mem_range.mpr hi)
    simpa [Array.getElem?_eq_getElem hi] using q
  obtain ⟨q0, hg2⟩ := and_e hg1
  obtain ⟨i0, ee0⟩ := is_v q0
  obtain rfl : w0 = (.int i0) := Option.some.inj ee0
  obtain ⟨q1, hg3⟩ := and_e hg2
  obtain ⟨i1, ee1⟩ := is_v q1
  obtain rfl : w1 = (.int i1) := Option.some.inj ee1
  obtain ⟨q2, hg4⟩ := and_e hg3
  obtain ⟨i2, ee2⟩ := is_v q2
  obtain rfl : w2 = (.int i2) := Option.some.inj ee2
  obtain ⟨i3, ee3⟩ := is_v hg4
  obtain rfl : w3 = (.int i3) := Option.some.inj ee3
  obtain ⟨n, o, h1, h2, h3, _, L, rfl, ⟨rfl, N⟩, hq⟩ := rm_law l s _ hw tables_1  i0 i1 i2 i3 s.heap s.heap.size (Nat.le_refl _) p e ha hc hk s m _ below hf ((Spec.applies_iff_loose hf).mp happ).1 ⟨rfl, State.Warmed39.refl s, rfl⟩ trivial
  refine ⟨n, _, h1, h2, h3, hpost _ _ _ _ _ _ ⟨Cond.after_iff.mpr rfl, Cond.after_iff.mpr (eq_i res_at (Term.int_eval (1)) rfl), trivial⟩ ⟨hq.1, hq.2.1, (hq.2.2.sift fun y hy => Or.inr (N y hy)).mono (by decide) (by decide)⟩⟩
theorem main_1_1 : Claimed_1_1 := comes_1 fun _ _ _ _ _ _ h hF => ⟨h.1, hF⟩
theorem main_1_2 : Claimed_1_2 := comes_1 fun _ _ _ _ _ _ h hF => ⟨h.2.1, hF⟩
end Jvm.Pilot.@@N@@
namespace Jvm.Pilot.@@N@@
open Jvm Jvm.ClassFile Sem Op Lib Jvm.Free Jvm.Stand Jvm.Pilot.@@N@@.Jvm.D
/-! MADE BY PROGRAM (witnessworld.py) out of the Statement's table words and the real class files: 11 classes; the members and pool entries that the words name. The judged class is class 1, her method 1. -/
namespace start1
open Jvm.ClassFile
def u (s : String) : CpInfo := .utf8 (stringToUtf16 s)
/-- a pool by its gaps: so many unusable entries, then the entry; so many at the end -/
def gap : Nat → List CpInfo → List CpInfo
  | 0, r => r
  | n + 1, r => .unusable :: gap n r
def poolList (es : List (Nat × CpInfo)) (last : Nat) : List CpInfo := es.foldr (fun e r => gap e.1 (e.2 :: r)) (gap last [])
def pool (es : List (Nat × CpInfo)) (last : Nat) : Array CpInfo := ⟨poolList es last⟩
def fileOf (pool : Array CpInfo) (this : Nat) (attrs : Array Attribute := #[]) (ms : Array MethodInfo := #[]) (fl : Nat := 33) (sup : Nat := 0) (ifs : Array Nat := #[]) (fds : Array FieldInfo := #[]) : ClassFile where
  minorVersion := 0
  majorVersion := 65
  constantPool := pool
  accessFlags := fl
  thisClass := this
  superClass := sup
  interfaces := ifs
  fields := fds
  methods := ms
  attributes := attrs
def plain (name : String) (sup : Option ClassId) : Class where
  name := name
  kind := .ordinary
  loader := none
  accessFlags := 33
  super := sup
  interfaces := #[]
  cf := none
  fields := #[]
  methods := #[]
  instanceTypes := #[]
  staticTypes := #[]
  resolved := #[]
  callSites := []
  init := .initialized
  statics := none
  mirror := none

def pool0 : Array CpInfo := pool [(5, u "<init>"), (0, u "()V"), (1, .class_ 10), (1, u "java/lang/Object")] 113

def k0c0 : Code := { maxStack := 0, maxLocals := 1, code := object_method_1_code, exceptionTable := #[], attributes := #[] }
def k0m0 : Method := { name := "<init>", desc := "()V", sig := { parameters := [], returnType := none }, accessFlags := 1, code := some k0c0 }
/-- java/lang/Object -/
def k0 : Class := { plain "java/lang/Object" none with
  accessFlags := 33
  interfaces := #[]
  cf := some (fileOf pool0 8 #[] #[{ accessFlags := 1, nameIndex := 5, descriptorIndex := 6, attributes := #[] }] 33 0 #[] #[])
  fields := #[]
  methods := #[k0m0]
  instanceTypes := #[]
  staticTypes := #[]
  resolved := Array.replicate 124 none
  statics := none }

def pool1 : Array CpInfo := pool [(2, .class_ 4), (1, u "java/lang/Object"), (0, u "<init>"), (0, u "()V"), (0, .integer 1073741823), (0, .methodref 9 10), (0, .class_ 11), (0, .nameAndType 12 13), (0, u "java/lang/Math"), (0, u "max"), (0, u "(II)I"), (0, .integer 2147483647), (0, .class_ 16), (0, u "com/example/rhoquery/rhoquery/Information$Theta"), (0, .methodref 15 18), (0, .nameAndType 5 19), (0, u "(III)V"), (0, .methodref 15 21), (0, .nameAndType 22 23), (0, u "specificity"), (0, u "()D"), (0, .double 4602678819172646912), (1, .class_ 27), (0, u "com/example/rhoquery/rhoquery/ThetaSpecificityPinLaw"), (2, u "law"), (0, u "(IIII)Z")] 7

def k1m0 : Method := { name := "<init>", desc := "()V", sig := { parameters := [], returnType := none }, accessFlags := 2, code := none }
def k1c1 : Code := { maxStack := 5, maxLocals := 24, code := code, exceptionTable := #[], attributes := #[] }
def k1m1 : Method := { name := "law", desc := "(IIII)Z", sig := { parameters := [.int, .int, .int, .int], returnType := some .boolean }, accessFlags := 9, code := some k1c1 }
/-- com/example/rhoquery/rhoquery/ThetaSpecificityPinLaw -/
def k1 : Class := { plain "com/example/rhoquery/rhoquery/ThetaSpecificityPinLaw" (some 0) with
  accessFlags := 49
  interfaces := #[]
  cf := some (fileOf pool1 26 #[] #[{ accessFlags := 2, nameIndex := 5, descriptorIndex := 6, attributes := #[] }, { accessFlags := 9, nameIndex := 30, descriptorIndex := 31, attributes := #[] }] 49 2 #[] #[])
  fields := #[]
  methods := #[k1m0, k1m1]
  instanceTypes := #[]
  staticTypes := #[]
  resolved := Array.replicate 39 none
  statics := none }

def pool2 : Array CpInfo := pool [(1, .class_ 2), (0, u "java/lang/Math"), (1, .class_ 6), (1, u "java/lang/Object"), (0, u "<init>"), (0, u "()V"), (89, .class_ 100), (1, u "java/lang/Math$RandomNumberGeneratorHolder"), (71, u "negativeZeroFloatBits"), (0, u "J"), (2, u "negativeZeroDoubleBits"), (21, u "max"), (46, u "$assertionsDisabled"), (0, u "Z"), (88, u "(II)I"), (2, u "twoToTheDoubleScaleDown"), (0, u "D"), (4, u "twoToTheDoubleScaleUp"), (9, u "E"), (3, u "PI"), (2, u "TAU"), (2, u "DEGREES_TO_RADIANS"), (0, u "RADIANS_TO_DEGREES")] 94

def k2m0 : Method := { name := "<init>", desc := "()V", sig := { parameters := [], returnType := none }, accessFlags := 2, code := none }
def k2c1 : Code := { maxStack := 2, maxLocals := 2, code := jdk_29_method_65_code, exceptionTable := #[], attributes := #[] }
def k2m1 : Method := { name := "max", desc := "(II)I", sig := { parameters := [.int, .int], returnType := some .int }, accessFlags := 9, code := some k2c1 }
/-- java/lang/Math -/
def k2 : Class := { plain "java/lang/Math" (some 0) with
  accessFlags := 49
  interfaces := #[]
  cf := some (fileOf pool2 1 #[.nestMembers #[98]] #[{ accessFlags := 2, nameIndex := 7, descriptorIndex := 8, attributes := #[] }, { accessFlags := 9, nameIndex := 198, descriptorIndex := 335, attributes := #[] }] 49 4 #[] #[{ accessFlags := 25, nameIndex := 354, descriptorIndex := 339, attributes := #[] }, { accessFlags := 25, nameIndex := 358, descriptorIndex := 339, attributes := #[] }, { accessFlags := 25, nameIndex := 361, descriptorIndex := 339, attributes := #[] }, { accessFlags := 26, nameIndex := 364, descriptorIndex := 339, attributes := #[] }, { accessFlags := 26, nameIndex := 365, descriptorIndex := 339, attributes := #[] }, { accessFlags := 26, nameIndex := 172, descriptorIndex := 173, attributes := #[] }, { accessFlags := 26, nameIndex := 176, descriptorIndex := 173, attributes := #[] }, { accessFlags := 8, nameIndex := 344, descriptorIndex := 339, attributes := #[] }, { accessFlags := 8, nameIndex := 338, descriptorIndex := 339, attributes := #[] }, { accessFlags := 4120, nameIndex := 245, descriptorIndex := 246, attributes := #[] }])
  fields := #[{ name := "E", type := .double, accessFlags := 25, slot := 0, constantValue := 0 }, { name := "PI", type := .double, accessFlags := 25, slot := 1, constantValue := 0 }, { name := "TAU", type := .double, accessFlags := 25, slot := 2, constantValue := 0 }, { name := "DEGREES_TO_RADIANS", type := .double, accessFlags := 26, slot := 3, constantValue := 0 }, { name := "RADIANS_TO_DEGREES", type := .double, accessFlags := 26, slot := 4, constantValue := 0 }, { name := "negativeZeroFloatBits", type := .long, accessFlags := 26, slot := 5, constantValue := 0 }, { name := "negativeZeroDoubleBits", type := .long, accessFlags := 26, slot := 6, constantValue := 0 }, { name := "twoToTheDoubleScaleUp", type := .double, accessFlags := 8, slot := 7, constantValue := 0 }, { name := "twoToTheDoubleScaleDown", type := .double, accessFlags := 8, slot := 8, constantValue := 0 }, { name := "$assertionsDisabled", type := .boolean, accessFlags := 4120, slot := 9, constantValue := 0 }]
  methods := #[k2m0, k2m1]
  instanceTypes := #[]
  staticTypes := #[.double, .double, .double, .double, .double, .long, .long, .double, .double, .boolean]
  resolved := Array.replicate 460 none
  statics := none }

def pool3 : Array CpInfo := pool [(1, .methodref 2 3), (0, .class_ 4), (0, .nameAndType 5 6), (0, u "java/lang/Object"), (0, u "<init>"), (0, u "()V"), (0, .class_ 8), (0, u "java/lang/Record")] 13

def k3c0 : Code := { maxStack := 1, maxLocals := 1, code := jdk_30_method_1_code, exceptionTable := #[], attributes := #[] }
def k3m0 : Method := { name := "<init>", desc := "()V", sig := { parameters := [], returnType := none }, accessFlags := 4, code := some k3c0 }
/-- java/lang/Record -/
def k3 : Class := { plain "java/lang/Record" (some 0) with
  accessFlags := 1057
  interfaces := #[]
  cf := some (fileOf pool3 7 #[] #[{ accessFlags := 4, nameIndex := 5, descriptorIndex := 6, attributes := #[] }] 1057 2 #[] #[])
  fields := #[]
  methods := #[k3m0]
  instanceTypes := #[]
  staticTypes := #[]
  resolved := Array.replicate 22 none
  statics := none }

def pool4 : Array CpInfo := pool [(1, .methodref 2 3), (0, .class_ 4), (0, .nameAndType 5 6), (0, u "java/lang/Record"), (0, u "<init>"), (0, u "()V"), (0, .fieldref 8 9), (0, .class_ 10), (0, .nameAndType 11 12), (0, u "com/example/rhoquery/rhoquery/Information$Theta"), (0, u "count"), (0, u "I"), (0, .fieldref 8 14), (0, .nameAndType 15 12), (0, u "theta"), (0, .fieldref 8 17), (0, .nameAndType 18 12), (0, u "properties"), (2, u "specificity"), (0, u "()D"), (1, .class_ 26), (1, u "com/example/rhoquery/rhoquery/Information"), (14, u "(III)V")] 32

def k4c0 : Code := { maxStack := 2, maxLocals := 4, code := prog_14_method_1_code, exceptionTable := #[], attributes := #[] }
def k4m0 : Method := { name := "<init>", desc := "(III)V", sig := { parameters := [.int, .int, .int], returnType := none }, accessFlags := 1, code := some k4c0 }
def k4c1 : Code := { maxStack := 4, maxLocals := 1, code := prog_14_method_2_code, exceptionTable := #[], attributes := #[] }
def k4m1 : Method := { name := "specificity", desc := "()D", sig := { parameters := [], returnType := some .double }, accessFlags := 1, code := some k4c1 }
/-- com/example/rhoquery/rhoquery/Information$Theta -/
def k4 : Class := { plain "com/example/rhoquery/rhoquery/Information$Theta" (some 3) with
  accessFlags := 49
  interfaces := #[]
  cf := some (fileOf pool4 8 #[.nestHost 24] #[{ accessFlags := 1, nameIndex := 5, descriptorIndex := 41, attributes := #[] }, { accessFlags := 1, nameIndex := 21, descriptorIndex := 22, attributes := #[] }] 49 2 #[] #[{ accessFlags := 18, nameIndex := 11, descriptorIndex := 12, attributes := #[] }, { accessFlags := 18, nameIndex := 15, descriptorIndex := 12, attributes := #[] }, { accessFlags := 18, nameIndex := 18, descriptorIndex := 12, attributes := #[] }])
  fields := #[{ name := "count", type := .int, accessFlags := 18, slot := 0, constantValue := 0 }, { name := "theta", type := .int, accessFlags := 18, slot := 1, constantValue := 0 }, { name := "properties", type := .int, accessFlags := 18, slot := 2, constantValue := 0 }]
  methods := #[k4m0, k4m1]
  instanceTypes := #[.int, .int, .int]
  staticTypes := #[]
  resolved := Array.replicate 74 none
  statics := none }

def pool5 : Array CpInfo := pool [(1, u "java/lang/Cloneable"), (0, .class_ 1), (0, u "java/lang/Object"), (0, .class_ 3)] 3

/-- java/lang/Cloneable -/
def k5 : Class := { plain "java/lang/Cloneable" (some 0) with
  accessFlags := 1537
  interfaces := #[]
  cf := some (fileOf pool5 2 #[] #[] 1537 4 #[] #[])
  fields := #[]
  methods := #[]
  instanceTypes := #[]
  staticTypes := #[]
  resolved := Array.replicate 8 none
  statics := none }

def pool6 : Array CpInfo := pool [(1, u "java/io/Serializable"), (0, .class_ 1), (0, u "java/lang/Object"), (0, .class_ 3)] 3

/-- java/io/Serializable -/
def k6 : Class := { plain "java/io/Serializable" (some 0) with
  accessFlags := 1537
  interfaces := #[]
  cf := some (fileOf pool6 2 #[] #[] 1537 4 #[] #[])
  fields := #[]
  methods := #[]
  instanceTypes := #[]
  staticTypes := #[]
  resolved := Array.replicate 8 none
  statics := none }

/-- the primitive byte -/
def k7 : Class := { plain "byte" none with kind := .primitive 'B', accessFlags := 0x411 }
/-- [B -/
def k8 : Class := { plain "[B" (some 0) with kind := .array 7 .byte, interfaces := #[5, 6], accessFlags := 1041 }

/-- the primitive int -/
def k9 : Class := { plain "int" none with kind := .primitive 'I', accessFlags := 0x411 }
/-- [I -/
def k10 : Class := { plain "[I" (some 0) with kind := .array 9 .int, interfaces := #[5, 6], accessFlags := 1041 }

def heap : Heap := #[]
def classes : Array Class := #[k0, k1, k2, k3, k4, k5, k6, k7, k8, k9, k10]
def interned : List (Array UInt16 × Addr) := []
def slotsUsed : Nat := 0
def theMethod : MethodId := ⟨1, 1⟩
def args0 : Array Value := #[.int 5, .int 7, .int 9, .int 11]
def aboutOver (below : List Frame) : State where
  vm := { classes := classes, interned := interned.toArray }
  heap := heap
  slotsUsed := slotsUsed
  threads := #[{ frames := .invoking theMethod args0 :: below }]
def below0 : List Frame := [.native { method := ⟨0, 0⟩, args := #[] }]
def about1 : State := aboutOver below0
def p0 : Program := .bare "" "" ""
def e0 : Env := launch0.env 0 0 0
theorem w_frames : about1.frames = Frame.invoking theMethod args0 :: below0 := rfl
set_option maxRecDepth 65536 in
theorem w_args : argsFit about1.vm theMethod args0 = true := by decide +kernel
set_option maxRecDepth 65536 in
theorem w_heap : heapFits about1 = true := by decide +kernel
set_option maxRecDepth 65536 in
theorem w_runnable : about1.curStatus? = some .runnable := by decide +kernel
set_option maxRecDepth 65536 in
theorem w_alone : about1.alone = true := by decide +kernel
set_option maxRecDepth 65536 in
theorem w_named : about1.methodNamed? x = some theMethod := by decide +kernel
set_option maxRecDepth 65536 in
theorem w_hears : about1.hears theMethod below0 = true := by decide +kernel
set_option maxRecDepth 65536 in
theorem w_ripe : about1.ripe theMethod args0 below0 = true := by decide +kernel
theorem w_running : about1.status = .running := rfl
set_option maxRecDepth 65536 in
theorem w_room : about1.hasRoom e0.platform room_1 = true :=
  launch0.hasRoom_least _ room_1 (by decide +kernel) (by decide +kernel) (by decide +kernel) (by decide +kernel) (by decide +kernel) (by decide +kernel)
theorem allAtoms_all (ts : List Jvm.Cond) (a : Array Jvm.Value) (st : Jvm.State) : (allAtoms ts).before a st = ts.all (fun c => c.before a st) := by
  induction ts with
  | nil => rfl
  | cons c t ih =>
    show (Jvm.Cond.and c (allAtoms t)).before a st = _
    rw [Jvm.Cond.before_and, ih, List.all_cons]
def words1 : List Jvm.Cond := Jvm.Cond.code x code maxLocals ret :: tables_1
/-- a 'code' word, met by the world's own term for the bytes: nothing is compared byte by byte -/
theorem code_word {y : MethodName} {bytes : ByteArray} {mx : Nat} {rt : Option FieldType} {a : Array Value} {s : State} {m : MethodId} {meth : Method} {c : Code} (h1 : s.methodNamed? y = some m) (h2 : s.vm.method? m = some meth) (h3 : meth.code = some c) (h4 : c.code = bytes)
    (h5 : (c.maxLocals == mx && c.exceptionTable.isEmpty && decide (c.maxStack ≤ mostOperands) && decide (meth.sig.returnType = rt) && !meth.locks && decide (parseMethodDescriptor y.desc = some meth.sig)) = true) : (Jvm.Cond.code y bytes mx rt).before a s = true := by
  simp only [Bool.and_eq_true, beq_iff_eq, Bool.not_eq_true', decide_eq_true_eq] at h5
  obtain ⟨⟨⟨⟨⟨g1, g2⟩, g3⟩, g4⟩, g5⟩, g6⟩ := h5
  simp [Cond.before, Cond.holds, Cond.value, h1, h2, h3, h4, g1, g2, g3, g4, g5, g6]
def isCode : Jvm.Cond → Bool
  | .code _ _ _ _ => true
  | _ => false
theorem all_split {L : List Jvm.Cond} {P : Jvm.Cond → Bool} (h1 : L.all (fun c => isCode c || P c) = true) (h2 : ∀ c ∈ L.filter isCode, P c = true) : L.all P = true := by
  refine List.all_eq_true.mpr fun c hc => ?_
  have h := List.all_eq_true.mp h1 c hc
  rcases Bool.eq_false_or_eq_true (isCode c) with hi | hi
  · exact h2 c (List.mem_filter.mpr ⟨hc, hi⟩)
  · simpa [hi] using h
set_option maxRecDepth 65536 in
theorem w_c0 : (Jvm.Cond.code x code maxLocals ret).before args0 about1 = true := code_word (m := ⟨1, 1⟩) (meth := k1m1) (c := k1c1) (by decide +kernel) rfl rfl rfl (by decide +kernel)
set_option maxRecDepth 65536 in
theorem w_c1 : (Jvm.Cond.code ({ cls := "java/lang/Math", name := "max", desc := "(II)I" } : Jvm.MethodName) jdk_29_method_65_code (2 : Nat) (Option.some Jvm.ClassFile.FieldType.int)).before args0 about1 = true := code_word (m := ⟨2, 1⟩) (meth := k2m1) (c := k2c1) (by decide +kernel) rfl rfl rfl (by decide +kernel)
set_option maxRecDepth 65536 in
theorem w_c2 : (Jvm.Cond.code ({ cls := "com/example/rhoquery/rhoquery/Information$Theta", name := "<init>", desc := "(III)V" } : Jvm.MethodName) prog_14_method_1_code (4 : Nat) (Option.none : Option Jvm.ClassFile.FieldType)).before args0 about1 = true := code_word (m := ⟨4, 0⟩) (meth := k4m0) (c := k4c0) (by decide +kernel) rfl rfl rfl (by decide +kernel)
set_option maxRecDepth 65536 in
theorem w_c3 : (Jvm.Cond.code ({ cls := "java/lang/Record", name := "<init>", desc := "()V" } : Jvm.MethodName) jdk_30_method_1_code (1 : Nat) (Option.none : Option Jvm.ClassFile.FieldType)).before args0 about1 = true := code_word (m := ⟨3, 0⟩) (meth := k3m0) (c := k3c0) (by decide +kernel) rfl rfl rfl (by decide +kernel)
set_option maxRecDepth 65536 in
theorem w_c4 : (Jvm.Cond.code ({ cls := "java/lang/Object", name := "<init>", desc := "()V" } : Jvm.MethodName) object_method_1_code (1 : Nat) (Option.none : Option Jvm.ClassFile.FieldType)).before args0 about1 = true := code_word (m := ⟨0, 0⟩) (meth := k0m0) (c := k0c0) (by decide +kernel) rfl rfl rfl (by decide +kernel)
set_option maxRecDepth 65536 in
theorem w_c5 : (Jvm.Cond.code ({ cls := "com/example/rhoquery/rhoquery/Information$Theta", name := "specificity", desc := "()D" } : Jvm.MethodName) prog_14_method_2_code (1 : Nat) (Option.some Jvm.ClassFile.FieldType.double)).before args0 about1 = true := code_word (m := ⟨4, 1⟩) (meth := k4m1) (c := k4c1) (by decide +kernel) rfl rfl rfl (by decide +kernel)
def codes1 : List Jvm.Cond := [Jvm.Cond.code x code maxLocals ret, Jvm.Cond.code ({ cls := "java/lang/Math", name := "max", desc := "(II)I" } : Jvm.MethodName) jdk_29_method_65_code (2 : Nat) (Option.some Jvm.ClassFile.FieldType.int), Jvm.Cond.code ({ cls := "com/example/rhoquery/rhoquery/Information$Theta", name := "<init>", desc := "(III)V" } : Jvm.MethodName) prog_14_method_1_code (4 : Nat) (Option.none : Option Jvm.ClassFile.FieldType), Jvm.Cond.code ({ cls := "java/lang/Record", name := "<init>", desc := "()V" } : Jvm.MethodName) jdk_30_method_1_code (1 : Nat) (Option.none : Option Jvm.ClassFile.FieldType), Jvm.Cond.code ({ cls := "java/lang/Object", name := "<init>", desc := "()V" } : Jvm.MethodName) object_method_1_code (1 : Nat) (Option.none : Option Jvm.ClassFile.FieldType), Jvm.Cond.code ({ cls := "com/example/rhoquery/rhoquery/Information$Theta", name := "specificity", desc := "()D" } : Jvm.MethodName) prog_14_method_2_code (1 : Nat) (Option.some Jvm.ClassFile.FieldType.double)]
set_option maxRecDepth 65536 in
theorem codes_eq : words1.filter isCode = codes1 := rfl
theorem w_codes : ∀ c ∈ words1.filter isCode, c.before args0 about1 = true := by
  rw [codes_eq]
  intro c hc
  simp only [codes1, List.mem_cons, List.not_mem_nil, or_false] at hc
  rcases hc with rfl | rfl | rfl | rfl | rfl | rfl
  · exact w_c0
  · exact w_c1
  · exact w_c2
  · exact w_c3
  · exact w_c4
  · exact w_c5
set_option maxRecDepth 65536 in
theorem w_t1 : (words1.take 24).all (fun c => isCode c || c.before args0 about1) = true := by decide +kernel
set_option maxRecDepth 65536 in
theorem w_t2 : (words1.drop 24).all (fun c => isCode c || c.before args0 about1) = true := by decide +kernel
theorem w_tables : (allAtoms (Jvm.Cond.code x code maxLocals ret :: tables_1)).before args0 about1 = true := by
  rw [allAtoms_all]
  show words1.all (fun c => c.before args0 about1) = true
  refine all_split ?_ w_codes
  rw [← List.take_append_drop 24 words1, List.all_append, w_t1, w_t2]
  rfl
set_option maxRecDepth 65536 in
theorem w_case : (Jvm.Cond.and given_1 narrow_1).before args0 about1 = true := by decide +kernel
theorem w_applies : (headSpec (Jvm.Cond.code x code maxLocals ret :: tables_1) room_1).applies x e0.platform about1 = true :=
  (Spec.applies_iff w_frames).mpr ⟨w_running, w_runnable, w_alone, w_named, w_hears, w_ripe, w_room, w_tables⟩
theorem atStart : AtStart classFile x code maxLocals ret World_1 tables_1 room_1 Calls_1 rest_1 Pre_1 launch0 p0 e0 about1 theMethod args0 below0 :=
  ⟨lists_1, trivial, launch0.admits_env _ _ _, launch0.least_env, fairChoices_fair.cas, fairChoices_fair.clock, w_frames, w_args, w_heap, w_applies, trivial, trivial, w_case⟩
end start1
theorem witness_1 : WitnessClaimed_1 := ⟨start1.p0, start1.e0, start1.about1, start1.theMethod, start1.args0, start1.below0, start1.atStart⟩
end Jvm.Pilot.@@N@@
