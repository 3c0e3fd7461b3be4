import JvmDerived
import JvmDerived.Pilot.@@N@@Statement
import JvmDerived.Pilot.@@N@@Code
set_option linter.unusedVariables false
set_option linter.unusedSimpArgs false
@@BLOCK:NumsL.lean.txt@@
namespace Jvm.Pilot.@@N@@
open Jvm Jvm.ClassFile Sem Op Lib Jvm.Free Jvm.Stand Jvm.LawKit Jvm.RoadKit Bundle Jvm.Pilot.@@N@@.Jvm.D
/-! 1. OWN: a walk in continuation style: 'own_Goes': from this frame the run comes back with an outcome of which Q holds -/
def own_Goes (p : Program) (e : Env) (below : List Frame) (T : State) (F : JFrame) (Q : Outcome → State → Prop) : Prop := ∃ s₂ o, Steps p.tables e below (T.setTop F) s₂ ∧ s₂.status = .running ∧ Ended s₂ below o ∧ Q o s₂
def own_Ret (s : State) (K : Option Value → Heap → List Loc → Prop) (rc rs : Nat) (o : Outcome) (U' : State) : Prop := ∃ v L, o = .returned v ∧ K v U'.heap L ∧ FrameEnd s o U' L rc rs
def own_upd (f : Nat → Value) (k : Nat) (v : Value) : Nat → Value := fun i => if i = k then v else f i
/-- an array of n places at a; place j holds f j -/
def own_Arr (Z : State) (h : Heap) (a : Addr) (ty : FieldType) (n : Nat) (f : Nat → Value) : Prop := ∃ c : Cell, Arr Z h a c ty ∧ c.slots.size = n ∧ n < 2 ^ 31 ∧ ∀ j, j < n → c.slots[j]? = some (f j)
section Own
variable {p : Program} {l : Launch} {e : Env} {R : Room} {s : State} {m : MethodId} {args : Array Value} {below : List Frame} {meth : Method} {c : Code} {T : State} {locs : List Loc} {cells slots : Nat} {Z : State} {a0 : Array Value} {h h' : Heap} {Q : Outcome → State → Prop} {Ls Ls' : Array Slot} {st : List Value} {pc pc' : Nat}
theorem own_step {T' : State} {F F' : JFrame} (k : ∀ t, Steps p.tables e below (T'.setTop F') t → Steps p.tables e below (T.setTop F) t) (q : own_Goes p e below T' F' Q) : own_Goes p e below T F Q := by
  obtain ⟨s2, o, h1, h2⟩ := q
  exact ⟨s2, o, k _ h1, h2⟩
theorem own_body {y : MethodName} {bytes : ByteArray} {maxL : Nat} {rt : Option FieldType} {ws : List Jvm.Cond} {rm : Room} {as : Array Value} {h0 : Heap} {K : Option Value → Heap → List Loc → Prop} (hpl : plainFor y = true)
    (body : ∀ (p : Program) (e : Env) (s : State) (m : MethodId) (below : List Frame) (meth : Method) (c : Code) (s₁ : State), p.tables.exec = Jvm.exec → c.code = bytes → c.maxLocals = maxL → s.vm.findClass y.cls = some m.cls → meth.name = y.name → meth.sig.returnType = rt → meth.locks = false → Z.Warmed39 s.vm →
      Stand p l e rm s m as below meth c s₁ [] 0 0 → s₁.heap = h0 → own_Goes p e below s₁ (entryFrame m as maxL) (own_Ret s K rm.cells rm.slots)) :
    MetFree l y (head1 (Jvm.Cond.code y bytes maxL rt :: ws) rm) (fun a U => a = as ∧ Z.Warmed39 U.vm ∧ U.heap = h0) (fun _ _ _ _ _ => True) (fun _ U o U' => ∃ v L, o = .returned v ∧ K v U'.heap L ∧ FrameEnd U o U' L rm.cells rm.slots) := by
  refine MetFree.of_bodySF hpl hisR ?_
  intro p e s m args below meth c s₁ Bd hml0 hP hK
  obtain ⟨rfl, hZ, hh⟩ := hP
  exact body p e s m below meth c s₁ Bd.exec Bd.bytes hml0 (findClass_of_methodNamed Bd.named) (name_of_methodNamed Bd.named Bd.method).1 Bd.returns Bd.notSynchronized hZ (Stand.of_body Bd) (by rw [← hh, Bd.state]; rfl)
theorem own_iload (X : Stand p l e R s m args below meth c T locs cells slots) (hx : p.tables.exec = Jvm.exec) {k : Nat} {v : Int32} (hp : pc + 2 = pc') (hd : decode c.code pc = .ok (.iload k, 2)) (hl : Ls[k]? = some (.val (.int v))) (k : own_Goes p e below T (mkF m pc' Ls (.int v :: st)) Q) : own_Goes p e below T (mkF m pc Ls st) Q := by
  subst hp; exact own_step (fun _ q => XS.iload X.here hx rfl hd hl q) k
theorem own_iloadN (X : Stand p l e R s m args below meth c T locs cells slots) (hx : p.tables.exec = Jvm.exec) {k : Fin 4} {v : Int32} (hp : pc + 1 = pc') (hd : decode c.code pc = .ok (.iload_n k, 1)) (hl : Ls[k.val]? = some (.val (.int v))) (k : own_Goes p e below T (mkF m pc' Ls (.int v :: st)) Q) : own_Goes p e below T (mkF m pc Ls st) Q := by
  subst hp; exact own_step (fun _ q => XS.iloadN X.here hx rfl hd hl q) k
theorem own_istore (X : Stand p l e R s m args below meth c T locs cells slots) (hx : p.tables.exec = Jvm.exec) {k : Nat} {v : Int32} (hp : pc + 2 = pc') (hd : decode c.code pc = .ok (.istore k, 2)) (hl : storeLocals Ls k (.int v) = some Ls') (k : own_Goes p e below T (mkF m pc' Ls' st) Q) : own_Goes p e below T (mkF m pc Ls (.int v :: st)) Q := by
  subst hp; exact own_step (fun _ q => XS.istore X.here hx rfl hd rfl hl q) k
theorem own_istoreN (X : Stand p l e R s m args below meth c T locs cells slots) (hx : p.tables.exec = Jvm.exec) {k : Fin 4} {v : Int32} (hp : pc + 1 = pc') (hd : decode c.code pc = .ok (.istore_n k, 1)) (hl : storeLocals Ls k.val (.int v) = some Ls') (k : own_Goes p e below T (mkF m pc' Ls' st) Q) : own_Goes p e below T (mkF m pc Ls (.int v :: st)) Q := by
  subst hp; exact own_step (fun _ q => XS.istoreN X.here hx rfl hd rfl hl q) k
theorem own_lload (X : Stand p l e R s m args below meth c T locs cells slots) (hx : p.tables.exec = Jvm.exec) {k : Nat} {v : Int64} (hp : pc + 2 = pc') (hd : decode c.code pc = .ok (.lload k, 2)) (hl : Ls[k]? = some (.val (.long v))) (k : own_Goes p e below T (mkF m pc' Ls (.long v :: st)) Q) : own_Goes p e below T (mkF m pc Ls st) Q := by
  subst hp; exact own_step (fun _ q => XT.lload X.here hx rfl hd hl q) k
theorem own_lloadN (X : Stand p l e R s m args below meth c T locs cells slots) (hx : p.tables.exec = Jvm.exec) {k : Fin 4} {v : Int64} (hp : pc + 1 = pc') (hd : decode c.code pc = .ok (.lload_n k, 1)) (hl : Ls[k.val]? = some (.val (.long v))) (k : own_Goes p e below T (mkF m pc' Ls (.long v :: st)) Q) : own_Goes p e below T (mkF m pc Ls st) Q := by
  subst hp; exact own_step (fun _ q => XT.lloadN X.here hx rfl hd hl q) k
theorem own_lstore (X : Stand p l e R s m args below meth c T locs cells slots) (hx : p.tables.exec = Jvm.exec) {k : Nat} {v : Int64} (hp : pc + 2 = pc') (hd : decode c.code pc = .ok (.lstore k, 2)) (hl : storeLocals Ls k (.long v) = some Ls') (k : own_Goes p e below T (mkF m pc' Ls' st) Q) : own_Goes p e below T (mkF m pc Ls (.long v :: st)) Q := by
  subst hp; exact own_step (fun _ q => XT.lstore X.here hx rfl hd rfl hl q) k
theorem own_lstoreN (X : Stand p l e R s m args below meth c T locs cells slots) (hx : p.tables.exec = Jvm.exec) {k : Fin 4} {v : Int64} (hp : pc + 1 = pc') (hd : decode c.code pc = .ok (.lstore_n k, 1)) (hl : storeLocals Ls k.val (.long v) = some Ls') (k : own_Goes p e below T (mkF m pc' Ls' st) Q) : own_Goes p e below T (mkF m pc Ls (.long v :: st)) Q := by
  subst hp; exact own_step (fun _ q => XT.lstoreN X.here hx rfl hd rfl hl q) k
theorem own_aload (X : Stand p l e R s m args below meth c T locs cells slots) (hx : p.tables.exec = Jvm.exec) {k : Nat} {v : Value} (hp : pc + 2 = pc') (hd : decode c.code pc = .ok (.aload k, 2)) (hl : Ls[k]? = some (.val v)) (hv : v.isRef = true) (k : own_Goes p e below T (mkF m pc' Ls (v :: st)) Q) : own_Goes p e below T (mkF m pc Ls st) Q := by
  subst hp; exact own_step (fun _ q => XS.aload X.here hx rfl hd hl hv q) k
theorem own_aloadN (X : Stand p l e R s m args below meth c T locs cells slots) (hx : p.tables.exec = Jvm.exec) {k : Fin 4} {v : Value} (hp : pc + 1 = pc') (hd : decode c.code pc = .ok (.aload_n k, 1)) (hl : Ls[k.val]? = some (.val v)) (hv : v.isRef = true) (k : own_Goes p e below T (mkF m pc' Ls (v :: st)) Q) : own_Goes p e below T (mkF m pc Ls st) Q := by
  subst hp; exact own_step (fun _ q => XS.aloadN X.here hx rfl hd hl hv q) k
theorem own_astore (X : Stand p l e R s m args below meth c T locs cells slots) (hx : p.tables.exec = Jvm.exec) {k : Nat} {v : Value} (hp : pc + 2 = pc') (hd : decode c.code pc = .ok (.astore k, 2)) (hv : v.isRef = true) (hl : storeLocals Ls k v = some Ls') (k : own_Goes p e below T (mkF m pc' Ls' st) Q) : own_Goes p e below T (mkF m pc Ls (v :: st)) Q := by
  subst hp; exact own_step (fun _ q => XS.astore X.here hx rfl hd rfl hv hl q) k
theorem own_astoreN (X : Stand p l e R s m args below meth c T locs cells slots) (hx : p.tables.exec = Jvm.exec) {k : Fin 4} {v : Value} (hp : pc + 1 = pc') (hd : decode c.code pc = .ok (.astore_n k, 1)) (hv : v.isRef = true) (hl : storeLocals Ls k.val v = some Ls') (k : own_Goes p e below T (mkF m pc' Ls' st) Q) : own_Goes p e below T (mkF m pc Ls (v :: st)) Q := by
  subst hp; exact own_step (fun _ q => XS.astoreN X.here hx rfl hd rfl hv hl q) k
theorem own_iconst (X : Stand p l e R s m args below meth c T locs cells slots) (hx : p.tables.exec = Jvm.exec) {i : Int} {v : Int32} (hp : pc + 1 = pc') (hd : decode c.code pc = .ok (.iconst i, 1)) (hv : Int32.ofInt i = v) (k : own_Goes p e below T (mkF m pc' Ls (.int v :: st)) Q) : own_Goes p e below T (mkF m pc Ls st) Q := by
  subst hp; subst hv; exact own_step (fun _ q => XS.iconst X.here hx rfl hd  q) k
theorem own_bipush (X : Stand p l e R s m args below meth c T locs cells slots) (hx : p.tables.exec = Jvm.exec) {i : Int} {v : Int32} (hp : pc + 2 = pc') (hd : decode c.code pc = .ok (.bipush i, 2)) (hv : (Int8.ofInt i).toInt32 = v) (k : own_Goes p e below T (mkF m pc' Ls (.int v :: st)) Q) : own_Goes p e below T (mkF m pc Ls st) Q := by
  subst hp; subst hv; exact own_step (fun _ q => XS.bipush X.here hx rfl hd  q) k
theorem own_sipush (X : Stand p l e R s m args below meth c T locs cells slots) (hx : p.tables.exec = Jvm.exec) {i : Int} {v : Int32} (hp : pc + 3 = pc') (hd : decode c.code pc = .ok (.sipush i, 3)) (hv : (Int16.ofInt i).toInt32 = v) (k : own_Goes p e below T (mkF m pc' Ls (.int v :: st)) Q) : own_Goes p e below T (mkF m pc Ls st) Q := by
  subst hp; subst hv; exact own_step (fun _ q => XS.sipush X.here hx rfl hd  q) k
theorem own_lconst (X : Stand p l e R s m args below meth c T locs cells slots) (hx : p.tables.exec = Jvm.exec) {i : Fin 2} {v : Int64} (hp : pc + 1 = pc') (hd : decode c.code pc = .ok (.lconst i, 1)) (hv : Int64.ofNat i = v) (k : own_Goes p e below T (mkF m pc' Ls (.long v :: st)) Q) : own_Goes p e below T (mkF m pc Ls st) Q := by
  subst hp; subst hv; exact own_step (fun _ q => XT.lconst X.here hx rfl hd  q) k
theorem own_anull (X : Stand p l e R s m args below meth c T locs cells slots) (hx : p.tables.exec = Jvm.exec)  (hp : pc + 1 = pc') (hd : decode c.code pc = .ok (.aconst_null, 1))  (k : own_Goes p e below T (mkF m pc' Ls (.null :: st)) Q) : own_Goes p e below T (mkF m pc Ls st) Q := by
  subst hp; exact own_step (fun _ q => XS.aconstNull X.here hx rfl hd  q) k
theorem own_iadd (X : Stand p l e R s m args below meth c T locs cells slots) (hx : p.tables.exec = Jvm.exec) {x y v : Int32} (hp : pc + 1 = pc') (hd : decode c.code pc = .ok (.iadd, 1)) (hv : x + y = v) (k : own_Goes p e below T (mkF m pc' Ls (.int v :: st)) Q) : own_Goes p e below T (mkF m pc Ls (.int y :: .int x :: st)) Q := by
  subst hp; subst hv; exact own_step (fun _ q => XS.iadd X.here hx rfl hd rfl q) k
theorem own_isub (X : Stand p l e R s m args below meth c T locs cells slots) (hx : p.tables.exec = Jvm.exec) {x y v : Int32} (hp : pc + 1 = pc') (hd : decode c.code pc = .ok (.isub, 1)) (hv : x - y = v) (k : own_Goes p e below T (mkF m pc' Ls (.int v :: st)) Q) : own_Goes p e below T (mkF m pc Ls (.int y :: .int x :: st)) Q := by
  subst hp; subst hv; exact own_step (fun _ q => XS.isub X.here hx rfl hd rfl q) k
theorem own_imul (X : Stand p l e R s m args below meth c T locs cells slots) (hx : p.tables.exec = Jvm.exec) {x y v : Int32} (hp : pc + 1 = pc') (hd : decode c.code pc = .ok (.imul, 1)) (hv : x * y = v) (k : own_Goes p e below T (mkF m pc' Ls (.int v :: st)) Q) : own_Goes p e below T (mkF m pc Ls (.int y :: .int x :: st)) Q := by
  subst hp; subst hv; exact own_step (fun _ q => XS.imul X.here hx rfl hd rfl q) k
theorem own_iand (X : Stand p l e R s m args below meth c T locs cells slots) (hx : p.tables.exec = Jvm.exec) {x y v : Int32} (hp : pc + 1 = pc') (hd : decode c.code pc = .ok (.iand, 1)) (hv : x &&& y = v) (k : own_Goes p e below T (mkF m pc' Ls (.int v :: st)) Q) : own_Goes p e below T (mkF m pc Ls (.int y :: .int x :: st)) Q := by
  subst hp; subst hv; exact own_step (fun _ q => XS.iand X.here hx rfl hd rfl q) k
theorem own_ior (X : Stand p l e R s m args below meth c T locs cells slots) (hx : p.tables.exec = Jvm.exec) {x y v : Int32} (hp : pc + 1 = pc') (hd : decode c.code pc = .ok (.ior, 1)) (hv : x ||| y = v) (k : own_Goes p e below T (mkF m pc' Ls (.int v :: st)) Q) : own_Goes p e below T (mkF m pc Ls (.int y :: .int x :: st)) Q := by
  subst hp; subst hv; exact own_step (fun _ q => XT.ior X.here hx rfl hd rfl q) k
theorem own_ixor (X : Stand p l e R s m args below meth c T locs cells slots) (hx : p.tables.exec = Jvm.exec) {x y v : Int32} (hp : pc + 1 = pc') (hd : decode c.code pc = .ok (.ixor, 1)) (hv : x ^^^ y = v) (k : own_Goes p e below T (mkF m pc' Ls (.int v :: st)) Q) : own_Goes p e below T (mkF m pc Ls (.int y :: .int x :: st)) Q := by
  subst hp; subst hv; exact own_step (fun _ q => XT.ixor X.here hx rfl hd rfl q) k
theorem own_ishl (X : Stand p l e R s m args below meth c T locs cells slots) (hx : p.tables.exec = Jvm.exec) {x y v : Int32} (hp : pc + 1 = pc') (hd : decode c.code pc = .ok (.ishl, 1)) (hv : x <<< (y &&& 31) = v) (k : own_Goes p e below T (mkF m pc' Ls (.int v :: st)) Q) : own_Goes p e below T (mkF m pc Ls (.int y :: .int x :: st)) Q := by
  subst hp; subst hv; exact own_step (fun _ q => XT.ishl X.here hx rfl hd rfl q) k
theorem own_ishr (X : Stand p l e R s m args below meth c T locs cells slots) (hx : p.tables.exec = Jvm.exec) {x y v : Int32} (hp : pc + 1 = pc') (hd : decode c.code pc = .ok (.ishr, 1)) (hv : x >>> (y &&& 31) = v) (k : own_Goes p e below T (mkF m pc' Ls (.int v :: st)) Q) : own_Goes p e below T (mkF m pc Ls (.int y :: .int x :: st)) Q := by
  subst hp; subst hv; exact own_step (fun _ q => XT.ishr X.here hx rfl hd rfl q) k
theorem own_iushr (X : Stand p l e R s m args below meth c T locs cells slots) (hx : p.tables.exec = Jvm.exec) {x y v : Int32} (hp : pc + 1 = pc') (hd : decode c.code pc = .ok (.iushr, 1)) (hv : XT.ushr x y = v) (k : own_Goes p e below T (mkF m pc' Ls (.int v :: st)) Q) : own_Goes p e below T (mkF m pc Ls (.int y :: .int x :: st)) Q := by
  subst hp; subst hv; exact own_step (fun _ q => XT.iushr X.here hx rfl hd rfl q) k
theorem own_idiv (X : Stand p l e R s m args below meth c T locs cells slots) (hx : p.tables.exec = Jvm.exec) {x y v : Int32} (hp : pc + 1 = pc') (hd : decode c.code pc = .ok (.idiv, 1)) (hy : y ≠ 0) (hv : x / y = v) (k : own_Goes p e below T (mkF m pc' Ls (.int v :: st)) Q) : own_Goes p e below T (mkF m pc Ls (.int y :: .int x :: st)) Q := by
  subst hp; subst hv; exact own_step (fun _ q => XS.idiv X.here hx rfl hd rfl hy q) k
theorem own_irem (X : Stand p l e R s m args below meth c T locs cells slots) (hx : p.tables.exec = Jvm.exec) {x y v : Int32} (hp : pc + 1 = pc') (hd : decode c.code pc = .ok (.irem, 1)) (hy : y ≠ 0) (hv : x % y = v) (k : own_Goes p e below T (mkF m pc' Ls (.int v :: st)) Q) : own_Goes p e below T (mkF m pc Ls (.int y :: .int x :: st)) Q := by
  subst hp; subst hv; exact own_step (fun _ q => iremM X hx rfl hd rfl hy q) k
theorem own_ladd (X : Stand p l e R s m args below meth c T locs cells slots) (hx : p.tables.exec = Jvm.exec) {x y v : Int64} (hp : pc + 1 = pc') (hd : decode c.code pc = .ok (.ladd, 1)) (hv : x + y = v) (k : own_Goes p e below T (mkF m pc' Ls (.long v :: st)) Q) : own_Goes p e below T (mkF m pc Ls (.long y :: .long x :: st)) Q := by
  subst hp; subst hv; exact own_step (fun _ q => XT.ladd X.here hx rfl hd rfl q) k
theorem own_lsub (X : Stand p l e R s m args below meth c T locs cells slots) (hx : p.tables.exec = Jvm.exec) {x y v : Int64} (hp : pc + 1 = pc') (hd : decode c.code pc = .ok (.lsub, 1)) (hv : x - y = v) (k : own_Goes p e below T (mkF m pc' Ls (.long v :: st)) Q) : own_Goes p e below T (mkF m pc Ls (.long y :: .long x :: st)) Q := by
  subst hp; subst hv; exact own_step (fun _ q => XT.lsub X.here hx rfl hd rfl q) k
theorem own_lmul (X : Stand p l e R s m args below meth c T locs cells slots) (hx : p.tables.exec = Jvm.exec) {x y v : Int64} (hp : pc + 1 = pc') (hd : decode c.code pc = .ok (.lmul, 1)) (hv : x * y = v) (k : own_Goes p e below T (mkF m pc' Ls (.long v :: st)) Q) : own_Goes p e below T (mkF m pc Ls (.long y :: .long x :: st)) Q := by
  subst hp; subst hv; exact own_step (fun _ q => XT.lmul X.here hx rfl hd rfl q) k
theorem own_land (X : Stand p l e R s m args below meth c T locs cells slots) (hx : p.tables.exec = Jvm.exec) {x y v : Int64} (hp : pc + 1 = pc') (hd : decode c.code pc = .ok (.land, 1)) (hv : x &&& y = v) (k : own_Goes p e below T (mkF m pc' Ls (.long v :: st)) Q) : own_Goes p e below T (mkF m pc Ls (.long y :: .long x :: st)) Q := by
  subst hp; subst hv; exact own_step (fun _ q => XT.land X.here hx rfl hd rfl q) k
theorem own_lor (X : Stand p l e R s m args below meth c T locs cells slots) (hx : p.tables.exec = Jvm.exec) {x y v : Int64} (hp : pc + 1 = pc') (hd : decode c.code pc = .ok (.lor, 1)) (hv : x ||| y = v) (k : own_Goes p e below T (mkF m pc' Ls (.long v :: st)) Q) : own_Goes p e below T (mkF m pc Ls (.long y :: .long x :: st)) Q := by
  subst hp; subst hv; exact own_step (fun _ q => XT.lor X.here hx rfl hd rfl q) k
theorem own_lxor (X : Stand p l e R s m args below meth c T locs cells slots) (hx : p.tables.exec = Jvm.exec) {x y v : Int64} (hp : pc + 1 = pc') (hd : decode c.code pc = .ok (.lxor, 1)) (hv : x ^^^ y = v) (k : own_Goes p e below T (mkF m pc' Ls (.long v :: st)) Q) : own_Goes p e below T (mkF m pc Ls (.long y :: .long x :: st)) Q := by
  subst hp; subst hv; exact own_step (fun _ q => XT.lxor X.here hx rfl hd rfl q) k
theorem own_ldiv (X : Stand p l e R s m args below meth c T locs cells slots) (hx : p.tables.exec = Jvm.exec) {x y v : Int64} (hp : pc + 1 = pc') (hd : decode c.code pc = .ok (.ldiv, 1)) (hy : y ≠ 0) (hv : x / y = v) (k : own_Goes p e below T (mkF m pc' Ls (.long v :: st)) Q) : own_Goes p e below T (mkF m pc Ls (.long y :: .long x :: st)) Q := by
  subst hp; subst hv; exact own_step (fun _ q => XT.ldiv X.here hx rfl hd rfl hy q) k
theorem own_ineg (X : Stand p l e R s m args below meth c T locs cells slots) (hx : p.tables.exec = Jvm.exec) {x v : Int32} (hp : pc + 1 = pc') (hd : decode c.code pc = .ok (.ineg, 1)) (hv : -x = v) (k : own_Goes p e below T (mkF m pc' Ls (.int v :: st)) Q) : own_Goes p e below T (mkF m pc Ls (.int x :: st)) Q := by
  subst hp; subst hv; exact own_step (fun _ q => XS.ineg X.here hx rfl hd rfl q) k
theorem own_lneg (X : Stand p l e R s m args below meth c T locs cells slots) (hx : p.tables.exec = Jvm.exec) {x v : Int64} (hp : pc + 1 = pc') (hd : decode c.code pc = .ok (.lneg, 1)) (hv : -x = v) (k : own_Goes p e below T (mkF m pc' Ls (.long v :: st)) Q) : own_Goes p e below T (mkF m pc Ls (.long x :: st)) Q := by
  subst hp; subst hv; exact own_step (fun _ q => XT.lneg X.here hx rfl hd rfl q) k
theorem own_i2l (X : Stand p l e R s m args below meth c T locs cells slots) (hx : p.tables.exec = Jvm.exec) {x : Int32} {v : Int64} (hp : pc + 1 = pc') (hd : decode c.code pc = .ok (.i2l, 1)) (hv : x.toInt64 = v) (k : own_Goes p e below T (mkF m pc' Ls (.long v :: st)) Q) : own_Goes p e below T (mkF m pc Ls (.int x :: st)) Q := by
  subst hp; subst hv; exact own_step (fun _ q => XT.i2l X.here hx rfl hd rfl q) k
theorem own_l2i (X : Stand p l e R s m args below meth c T locs cells slots) (hx : p.tables.exec = Jvm.exec) {x : Int64} {v : Int32} (hp : pc + 1 = pc') (hd : decode c.code pc = .ok (.l2i, 1)) (hv : x.toInt32 = v) (k : own_Goes p e below T (mkF m pc' Ls (.int v :: st)) Q) : own_Goes p e below T (mkF m pc Ls (.long x :: st)) Q := by
  subst hp; subst hv; exact own_step (fun _ q => XT.l2i X.here hx rfl hd rfl q) k
theorem own_i2b (X : Stand p l e R s m args below meth c T locs cells slots) (hx : p.tables.exec = Jvm.exec) {x v : Int32} (hp : pc + 1 = pc') (hd : decode c.code pc = .ok (.i2b, 1)) (hv : x.toInt8.toInt32 = v) (k : own_Goes p e below T (mkF m pc' Ls (.int v :: st)) Q) : own_Goes p e below T (mkF m pc Ls (.int x :: st)) Q := by
  subst hp; subst hv; exact own_step (fun _ q => XT.i2b X.here hx rfl hd rfl q) k
theorem own_i2c (X : Stand p l e R s m args below meth c T locs cells slots) (hx : p.tables.exec = Jvm.exec) {x v : Int32} (hp : pc + 1 = pc') (hd : decode c.code pc = .ok (.i2c, 1)) (hv : x.toUInt32.toUInt16.toUInt32.toInt32 = v) (k : own_Goes p e below T (mkF m pc' Ls (.int v :: st)) Q) : own_Goes p e below T (mkF m pc Ls (.int x :: st)) Q := by
  subst hp; subst hv; exact own_step (fun _ q => XT.i2c X.here hx rfl hd rfl q) k
theorem own_i2s (X : Stand p l e R s m args below meth c T locs cells slots) (hx : p.tables.exec = Jvm.exec) {x v : Int32} (hp : pc + 1 = pc') (hd : decode c.code pc = .ok (.i2s, 1)) (hv : x.toInt16.toInt32 = v) (k : own_Goes p e below T (mkF m pc' Ls (.int v :: st)) Q) : own_Goes p e below T (mkF m pc Ls (.int x :: st)) Q := by
  subst hp; subst hv; exact own_step (fun _ q => XT.i2s X.here hx rfl hd rfl q) k
theorem own_lcmp (X : Stand p l e R s m args below meth c T locs cells slots) (hx : p.tables.exec = Jvm.exec) {x y : Int64} (hp : pc + 1 = pc') (hd : decode c.code pc = .ok (.lcmp, 1))  (k : own_Goes p e below T (mkF m pc' Ls (.int (XT.cmpL x y) :: st)) Q) : own_Goes p e below T (mkF m pc Ls (.long y :: .long x :: st)) Q := by
  subst hp; exact own_step (fun _ q => XT.lcmp X.here hx rfl hd rfl q) k
theorem own_iinc (X : Stand p l e R s m args below meth c T locs cells slots) (hx : p.tables.exec = Jvm.exec) {n : Nat} {i : Int} {x v : Int32} (hp : pc + 3 = pc') (hd : decode c.code pc = .ok (.iinc n i, 3)) (hl : Ls[n]? = some (.val (.int x))) (hv : x + Int32.ofInt i = v) (hl' : storeLocals Ls n (.int v) = some Ls') (k : own_Goes p e below T (mkF m pc' Ls' st) Q) : own_Goes p e below T (mkF m pc Ls st) Q := by
  subst hp; subst hv; exact own_step (fun _ q => XS.iinc X.here hx rfl hd hl hl' q) k
theorem own_dup (X : Stand p l e R s m args below meth c T locs cells slots) (hx : p.tables.exec = Jvm.exec) {x : Value} (hp : pc + 1 = pc') (hd : decode c.code pc = .ok (.dup, 1)) (hc : x.category = 1) (k : own_Goes p e below T (mkF m pc' Ls (x :: x :: st)) Q) : own_Goes p e below T (mkF m pc Ls (x :: st)) Q := by
  subst hp; exact own_step (fun _ q => XS.dup X.here hx rfl hd rfl hc q) k
theorem own_pop (X : Stand p l e R s m args below meth c T locs cells slots) (hx : p.tables.exec = Jvm.exec) {x : Value} (hp : pc + 1 = pc') (hd : decode c.code pc = .ok (.pop, 1)) (hc : x.category = 1) (k : own_Goes p e below T (mkF m pc' Ls st) Q) : own_Goes p e below T (mkF m pc Ls (x :: st)) Q := by
  subst hp; exact own_step (fun _ q => XT.pop X.here hx rfl hd rfl hc q) k
theorem own_goto (X : Stand p l e R s m args below meth c T locs cells slots) (hx : p.tables.exec = Jvm.exec) {o : Int} (hd : decode c.code pc = .ok (.goto o, 3)) (ho : 0 ≤ (pc : Int) + o) (hp : ((pc : Int) + o).toNat = pc') (k : own_Goes p e below T (mkF m pc' Ls st) Q) : own_Goes p e below T (mkF m pc Ls st) Q := own_step (fun _ q => XS.goto X.here hx rfl (pc0 := pc) (pc' := pc') rfl hd ho hp q) k
theorem own_ifT (X : Stand p l e R s m args below meth c T locs cells slots) (hx : p.tables.exec = Jvm.exec) {cd : ClassFile.Cond} {x : Int32} {o : Int} (hd : decode c.code pc = .ok (.ifCond cd o, 3)) (hc : ifCond.holds cd x = true) (ho : 0 ≤ (pc : Int) + o) (hp : ((pc : Int) + o).toNat = pc') (k : own_Goes p e below T (mkF m pc' Ls st) Q) : own_Goes p e below T (mkF m pc Ls (.int x :: st)) Q := own_step (fun _ q => XS.ifYes X.here hx rfl (pc0 := pc) (pc' := pc') rfl hd rfl hc ho hp q) k
theorem own_ifF (X : Stand p l e R s m args below meth c T locs cells slots) (hx : p.tables.exec = Jvm.exec) {cd : ClassFile.Cond} {x : Int32} {o : Int} (hp : pc + 3 = pc') (hd : decode c.code pc = .ok (.ifCond cd o, 3)) (hc : ifCond.holds cd x = false) (k : own_Goes p e below T (mkF m pc' Ls st) Q) : own_Goes p e below T (mkF m pc Ls (.int x :: st)) Q := by
  subst hp; exact own_step (fun _ q => XS.ifNo X.here hx rfl hd rfl hc q) k
theorem own_icmpT (X : Stand p l e R s m args below meth c T locs cells slots) (hx : p.tables.exec = Jvm.exec) {cd : ClassFile.Cond} {x y : Int32} {o : Int} (hd : decode c.code pc = .ok (.if_icmp cd o, 3)) (hc : if_icmp.holds cd x y = true) (ho : 0 ≤ (pc : Int) + o) (hp : ((pc : Int) + o).toNat = pc') (k : own_Goes p e below T (mkF m pc' Ls st) Q) : own_Goes p e below T (mkF m pc Ls (.int y :: .int x :: st)) Q := own_step (fun _ q => XS.icmpYes X.here hx rfl (pc0 := pc) (pc' := pc') rfl hd rfl hc ho hp q) k
theorem own_icmpF (X : Stand p l e R s m args below meth c T locs cells slots) (hx : p.tables.exec = Jvm.exec) {cd : ClassFile.Cond} {x y : Int32} {o : Int} (hp : pc + 3 = pc') (hd : decode c.code pc = .ok (.if_icmp cd o, 3)) (hc : if_icmp.holds cd x y = false) (k : own_Goes p e below T (mkF m pc' Ls st) Q) : own_Goes p e below T (mkF m pc Ls (.int y :: .int x :: st)) Q := by
  subst hp; exact own_step (fun _ q => XS.icmpNo X.here hx rfl hd rfl hc q) k
theorem own_acmpT (X : Stand p l e R s m args below meth c T locs cells slots) (hx : p.tables.exec = Jvm.exec) {cd : ClassFile.ACond} {x y : Value} {o : Int} (hd : decode c.code pc = .ok (.if_acmp cd o, 3)) (h1 : x.isRef = true) (h2 : y.isRef = true) (hc : XT.acmp cd x y = true) (ho : 0 ≤ (pc : Int) + o) (hp : ((pc : Int) + o).toNat = pc') (k : own_Goes p e below T (mkF m pc' Ls st) Q) : own_Goes p e below T (mkF m pc Ls (y :: x :: st)) Q := own_step (fun _ q => XT.acmpYes X.here hx rfl (pc0 := pc) (pc' := pc') rfl hd rfl h1 h2 hc ho hp q) k
theorem own_acmpF (X : Stand p l e R s m args below meth c T locs cells slots) (hx : p.tables.exec = Jvm.exec) {cd : ClassFile.ACond} {x y : Value} {o : Int} (hp : pc + 3 = pc') (hd : decode c.code pc = .ok (.if_acmp cd o, 3)) (h1 : x.isRef = true) (h2 : y.isRef = true) (hc : XT.acmp cd x y = false) (k : own_Goes p e below T (mkF m pc' Ls st) Q) : own_Goes p e below T (mkF m pc Ls (y :: x :: st)) Q := by
  subst hp; exact own_step (fun _ q => XT.acmpNo X.here hx rfl hd rfl h1 h2 hc q) k
theorem own_ldc (X : Stand p l e R s m args below meth c T locs cells slots) (hx : p.tables.exec = Jvm.exec) (hZ : Z.Warmed39 s.vm) {own : String} {index : Nat} {v : Int32} (hown : s.vm.findClass own = some m.cls) (w : (Jvm.Cond.constant own index v).before a0 Z = true) (hp : pc + 2 = pc') (hd : decode c.code pc = .ok (.ldc index, 2)) (k : own_Goes p e below T (mkF m pc' Ls (.int v :: st)) Q) : own_Goes p e below T (mkF m pc Ls st) Q := by
  subst hp; exact own_step (fun _ q => X.ldcI hx hown (mvT hZ w) rfl hd q) k
theorem own_ldc2_w (X : Stand p l e R s m args below meth c T locs cells slots) (hx : p.tables.exec = Jvm.exec) (hZ : Z.Warmed39 s.vm) {own : String} {index : Nat} {v : Int64} (hown : s.vm.findClass own = some m.cls) (w : (Jvm.Cond.constantLong own index v).before a0 Z = true) (hp : pc + 3 = pc') (hd : decode c.code pc = .ok (.ldc2_w index, 3)) (k : own_Goes p e below T (mkF m pc' Ls (.long v :: st)) Q) : own_Goes p e below T (mkF m pc Ls st) Q := by
  subst hp; exact own_step (fun _ q => X.ldc2J hx hown (mvT hZ w) rfl hd q) k
theorem own_retW (X : Stand p l e R s m args below meth c T locs cells slots) (hx : p.tables.exec = Jvm.exec) (hlk : meth.locks = false) {w : Option Value} (hv : meth.sig.returnType = none → w = none) {F : JFrame} (run : ∀ fs, (∀ (f : JFrame) (acts : List Action), f.method = m → f.locked = none → f.entered = [] → (doReturn e (T.setTop f) acts w).1 = T.setFrames fs) → Steps p.tables e below (T.setTop F) (T.setFrames fs)) {K : Option Value → Heap → List Loc → Prop} {rc rs : Nat} (hc : cells ≤ rc) (hs : slots ≤ rs) (hQ : K w T.heap locs) : own_Goes p e below T F (own_Ret s K rc rs) := by
  obtain ⟨fs, hr, hrun, hended, hW, hsame⟩ := X.leave (v := w) hv hlk
  exact ⟨_, _, run fs hr, hrun, hended, w, locs, rfl, hQ, ⟨_, rfl⟩, hW, hsame.mono hc hs⟩
theorem own_iret (X : Stand p l e R s m args below meth c T locs cells slots) (hx : p.tables.exec = Jvm.exec) (hlk : meth.locks = false) {z : Int32} (hret : meth.sig.returnType = some .int) (hd : decode c.code pc = .ok (.ireturn, 1)) {K : Option Value → Heap → List Loc → Prop} {rc rs : Nat} (hc : cells ≤ rc) (hs : slots ≤ rs) (hQ : K (some (.int z)) T.heap locs) : own_Goes p e below T (mkF m pc Ls (.int z :: st)) (own_Ret s K rc rs) :=
  own_retW X hx hlk (fun q => by rw [hret] at q; cases q) (fun fs hr => retOut X hx hret rfl (Or.inl ⟨rfl, Or.inl rfl, z, rfl⟩) hd hr) hc hs hQ
theorem own_zret (X : Stand p l e R s m args below meth c T locs cells slots) (hx : p.tables.exec = Jvm.exec) (hlk : meth.locks = false) {z : Int32} {t : FieldType} (hret : meth.sig.returnType = some t) (ht : t = .boolean ∨ t = .byte ∨ t = .char ∨ t = .short) (hd : decode c.code pc = .ok (.ireturn, 1)) {K : Option Value → Heap → List Loc → Prop} {rc rs : Nat} (hc : cells ≤ rc) (hs : slots ≤ rs) (hQ : K (some (.int (nar t z))) T.heap locs) : own_Goes p e below T (mkF m pc Ls (.int z :: st)) (own_Ret s K rc rs) :=
  own_retW X hx hlk (fun q => by rw [hret] at q; cases q) (fun fs hr => retN X hx hret ht hd hr) hc hs hQ
theorem own_lret (X : Stand p l e R s m args below meth c T locs cells slots) (hx : p.tables.exec = Jvm.exec) (hlk : meth.locks = false) {z : Int64} (hret : meth.sig.returnType = some .long) (hd : decode c.code pc = .ok (.lreturn, 1)) {K : Option Value → Heap → List Loc → Prop} {rc rs : Nat} (hc : cells ≤ rc) (hs : slots ≤ rs) (hQ : K (some (.long z)) T.heap locs) : own_Goes p e below T (mkF m pc Ls (.long z :: st)) (own_Ret s K rc rs) :=
  own_retW X hx hlk (fun q => by rw [hret] at q; cases q) (fun fs hr => retOut X hx hret rfl (Or.inr (Or.inl ⟨rfl, rfl, z, rfl⟩)) hd hr) hc hs hQ
theorem own_aret (X : Stand p l e R s m args below meth c T locs cells slots) (hx : p.tables.exec = Jvm.exec) (hlk : meth.locks = false) {z : Value} {t : FieldType} (hret : meth.sig.returnType = some t) (ht : t.isReference = true) (hz : z.isRef = true) (hd : decode c.code pc = .ok (.areturn, 1)) {K : Option Value → Heap → List Loc → Prop} {rc rs : Nat} (hc : cells ≤ rc) (hs : slots ≤ rs) (hQ : K (some z) T.heap locs) : own_Goes p e below T (mkF m pc Ls (z :: st)) (own_Ret s K rc rs) :=
  own_retW X hx hlk (fun q => by rw [hret] at q; cases q) (fun fs hr => retOut X hx hret (by cases t <;> simp [FieldType.isReference] at ht <;> cases z <;> simp [Value.isRef] at hz <;> rfl) (Or.inr (Or.inr (Or.inr (Or.inr ⟨rfl, ht, hz⟩)))) hd hr) hc hs hQ
theorem own_ret (X : Stand p l e R s m args below meth c T locs cells slots) (hx : p.tables.exec = Jvm.exec) (hlk : meth.locks = false) (hret : meth.sig.returnType = none) (hd : decode c.code pc = .ok (.return_, 1)) {K : Option Value → Heap → List Loc → Prop} {rc rs : Nat} (hc : cells ≤ rc) (hs : slots ≤ rs) (hQ : K none T.heap locs) : own_Goes p e below T (mkF m pc Ls []) (own_Ret s K rc rs) :=
  own_retW X hx hlk (fun _ => rfl) (fun fs hr => X.returnOut hx hret hd hr) hc hs hQ
theorem own_dload (X : Stand p l e R s m args below meth c T locs cells slots) (hx : p.tables.exec = Jvm.exec) {k : Nat} {v : UInt64} (hp : pc + 2 = pc') (hd : decode c.code pc = .ok (.dload k, 2)) (hl : Ls[k]? = some (.val (.double v))) (k : own_Goes p e below T (mkF m pc' Ls (.double v :: st)) Q) : own_Goes p e below T (mkF m pc Ls st) Q := by
  subst hp; exact own_step (fun _ q => XS.dload X.here hx rfl hd hl q) k
theorem own_dloadN (X : Stand p l e R s m args below meth c T locs cells slots) (hx : p.tables.exec = Jvm.exec) {k : Fin 4} {v : UInt64} (hp : pc + 1 = pc') (hd : decode c.code pc = .ok (.dload_n k, 1)) (hl : Ls[k.val]? = some (.val (.double v))) (k : own_Goes p e below T (mkF m pc' Ls (.double v :: st)) Q) : own_Goes p e below T (mkF m pc Ls st) Q := by
  subst hp; exact own_step (fun _ q => XS.dloadN X.here hx rfl hd hl q) k
theorem own_dstore (X : Stand p l e R s m args below meth c T locs cells slots) (hx : p.tables.exec = Jvm.exec) {k : Nat} {v : UInt64} (hp : pc + 2 = pc') (hd : decode c.code pc = .ok (.dstore k, 2)) (hl : storeLocals Ls k (.double v) = some Ls') (k : own_Goes p e below T (mkF m pc' Ls' st) Q) : own_Goes p e below T (mkF m pc Ls (.double v :: st)) Q := by
  subst hp; exact own_step (fun _ q => XS.dstore X.here hx rfl hd rfl hl q) k
theorem own_dstoreN (X : Stand p l e R s m args below meth c T locs cells slots) (hx : p.tables.exec = Jvm.exec) {k : Fin 4} {v : UInt64} (hp : pc + 1 = pc') (hd : decode c.code pc = .ok (.dstore_n k, 1)) (hl : storeLocals Ls k.val (.double v) = some Ls') (k : own_Goes p e below T (mkF m pc' Ls' st) Q) : own_Goes p e below T (mkF m pc Ls (.double v :: st)) Q := by
  subst hp; exact own_step (fun _ q => XS.dstoreN X.here hx rfl hd rfl hl q) k
theorem own_dconst0 (X : Stand p l e R s m args below meth c T locs cells slots) (hx : p.tables.exec = Jvm.exec) {v : UInt64} (hp : pc + 1 = pc') (hd : decode c.code pc = .ok (.dconst 0, 1)) (hv : FP.dconst0 = v) (k : own_Goes p e below T (mkF m pc' Ls (.double v :: st)) Q) : own_Goes p e below T (mkF m pc Ls st) Q := by
  subst hp; exact own_step (fun _ q => XS.dconst0 X.here hx rfl hd hv q) k
theorem own_dconst1 (X : Stand p l e R s m args below meth c T locs cells slots) (hx : p.tables.exec = Jvm.exec) {v : UInt64} (hp : pc + 1 = pc') (hd : decode c.code pc = .ok (.dconst 1, 1)) (hv : FP.dconst1 = v) (k : own_Goes p e below T (mkF m pc' Ls (.double v :: st)) Q) : own_Goes p e below T (mkF m pc Ls st) Q := by
  subst hp; exact own_step (fun _ q => XS.dconst1 X.here hx rfl hd hv q) k
theorem own_i2d (X : Stand p l e R s m args below meth c T locs cells slots) (hx : p.tables.exec = Jvm.exec) {x : Int32} {v : UInt64} (hp : pc + 1 = pc') (hd : decode c.code pc = .ok (.i2d, 1)) (hv : FP.i2d x = v) (k : own_Goes p e below T (mkF m pc' Ls (.double v :: st)) Q) : own_Goes p e below T (mkF m pc Ls (.int x :: st)) Q := by
  subst hp; exact own_step (fun _ q => XS.i2dS X.here hx rfl hd rfl hv q) k
theorem own_l2d (X : Stand p l e R s m args below meth c T locs cells slots) (hx : p.tables.exec = Jvm.exec) {x : Int64} {v : UInt64} (hp : pc + 1 = pc') (hd : decode c.code pc = .ok (.l2d, 1)) (hv : FP.l2d x = v) (k : own_Goes p e below T (mkF m pc' Ls (.double v :: st)) Q) : own_Goes p e below T (mkF m pc Ls (.long x :: st)) Q := by
  subst hp; exact own_step (fun _ q => XS.l2dS X.here hx rfl hd rfl hv q) k
theorem own_dneg (X : Stand p l e R s m args below meth c T locs cells slots) (hx : p.tables.exec = Jvm.exec) {x v : UInt64} (hp : pc + 1 = pc') (hd : decode c.code pc = .ok (.dneg, 1)) (hv : FP.dneg x = v) (k : own_Goes p e below T (mkF m pc' Ls (.double v :: st)) Q) : own_Goes p e below T (mkF m pc Ls (.double x :: st)) Q := by
  subst hp; exact own_step (fun _ q => XS.dnegS X.here hx rfl hd rfl hv q) k
theorem own_dcmp (X : Stand p l e R s m args below meth c T locs cells slots) (hx : p.tables.exec = Jvm.exec) {o : CmpOp} {x y : UInt64} {v : Int32} (hp : pc + 1 = pc') (hd : decode c.code pc = .ok (.dcmp o, 1)) (hv : cmpValue (FP.dcmp x y) o = v) (k : own_Goes p e below T (mkF m pc' Ls (.int v :: st)) Q) : own_Goes p e below T (mkF m pc Ls (.double y :: .double x :: st)) Q := by
  subst hp; exact own_step (fun _ q => XS.dcmpS X.here hx rfl hd rfl hv q) k
theorem own_dadd (X : Stand p l e R s m args below meth c T locs cells slots) (hx : p.tables.exec = Jvm.exec) {x y v : UInt64} (hp : pc + 1 = pc') (hd : decode c.code pc = .ok (.dadd, 1)) (hn : Jvm.Free.Fl.NoNaN64 (FP.dadd x y)) (hv : FP.dadd x y = v) (k : own_Goes p e below T (mkF m pc' Ls (.double v :: st)) Q) : own_Goes p e below T (mkF m pc Ls (.double y :: .double x :: st)) Q := by
  subst hp; exact own_step (fun _ q => XS.daddS X.here hx rfl hd rfl hn hv q) k
theorem own_dsub (X : Stand p l e R s m args below meth c T locs cells slots) (hx : p.tables.exec = Jvm.exec) {x y v : UInt64} (hp : pc + 1 = pc') (hd : decode c.code pc = .ok (.dsub, 1)) (hn : Jvm.Free.Fl.NoNaN64 (FP.dsub x y)) (hv : FP.dsub x y = v) (k : own_Goes p e below T (mkF m pc' Ls (.double v :: st)) Q) : own_Goes p e below T (mkF m pc Ls (.double y :: .double x :: st)) Q := by
  subst hp; exact own_step (fun _ q => XS.dsubS X.here hx rfl hd rfl hn hv q) k
theorem own_dmul (X : Stand p l e R s m args below meth c T locs cells slots) (hx : p.tables.exec = Jvm.exec) {x y v : UInt64} (hp : pc + 1 = pc') (hd : decode c.code pc = .ok (.dmul, 1)) (hn : Jvm.Free.Fl.NoNaN64 (FP.dmul x y)) (hv : FP.dmul x y = v) (k : own_Goes p e below T (mkF m pc' Ls (.double v :: st)) Q) : own_Goes p e below T (mkF m pc Ls (.double y :: .double x :: st)) Q := by
  subst hp; exact own_step (fun _ q => XS.dmulS X.here hx rfl hd rfl hn hv q) k
theorem own_ddiv (X : Stand p l e R s m args below meth c T locs cells slots) (hx : p.tables.exec = Jvm.exec) {x y v : UInt64} (hp : pc + 1 = pc') (hd : decode c.code pc = .ok (.ddiv, 1)) (hn : Jvm.Free.Fl.NoNaN64 (FP.ddiv x y)) (hv : FP.ddiv x y = v) (k : own_Goes p e below T (mkF m pc' Ls (.double v :: st)) Q) : own_Goes p e below T (mkF m pc Ls (.double y :: .double x :: st)) Q := by
  subst hp; exact own_step (fun _ q => XS.ddivS X.here hx rfl hd rfl hn hv q) k
theorem own_ldcD (X : Stand p l e R s m args below meth c T locs cells slots) (hx : p.tables.exec = Jvm.exec) (hZ : Z.Warmed39 s.vm) {own : String} {index : Nat} {v : UInt64} (hown : s.vm.findClass own = some m.cls) (w : (Jvm.Cond.constantDouble own index v).before a0 Z = true) (hp : pc + 3 = pc') (hd : decode c.code pc = .ok (.ldc2_w index, 3)) (k : own_Goes p e below T (mkF m pc' Ls (.double v :: st)) Q) : own_Goes p e below T (mkF m pc Ls st) Q := by
  subst hp; exact own_step (fun t q => X.ldc2DoubleC hx hown (mvT hZ w) (g := mkF m pc Ls st) rfl hd t q) k
theorem own_dret (X : Stand p l e R s m args below meth c T locs cells slots) (hx : p.tables.exec = Jvm.exec) (hlk : meth.locks = false) {z : UInt64} (hret : meth.sig.returnType = some .double) (hd : decode c.code pc = .ok (.dreturn, 1)) {K : Option Value → Heap → List Loc → Prop} {rc rs : Nat} (hc : cells ≤ rc) (hs : slots ≤ rs) (hQ : K (some (.double z)) T.heap locs) : own_Goes p e below T (mkF m pc Ls (.double z :: st)) (own_Ret s K rc rs) :=
  own_retW X hx hlk (fun q => by rw [hret] at q; cases q) (fun fs hr => retOut X hx hret rfl (Or.inr (Or.inr (Or.inl ⟨rfl, rfl, z, rfl⟩))) hd hr) hc hs hQ
theorem own_getF (X : Stand p l e R s m args below meth c T locs cells slots) (hx : p.tables.exec = Jvm.exec) (hZ : Z.Warmed39 s.vm) {own R0 O n d host : String} {index : Nat} (hown : s.vm.findClass own = some m.cls) (w : (Jvm.Cond.fieldLink own index R0 n d).before a0 Z = true ∨ (Jvm.Cond.fieldLinkNest own index R0 n d host).before a0 Z = true) (via : Via Z R0 O n d) (eT : T.heap = h) {a : Addr} {v : Value} (F : Fld Z h a O n d v) (hp : pc + 3 = pc') (hd : decode c.code pc = .ok (.getfield index, 3))
    (k : ∀ T', Stand p l e R s m args below meth c T' locs cells slots → T'.heap = h → own_Goes p e below T' (mkF m pc' Ls (v :: st)) Q) : own_Goes p e below T (mkF m pc Ls (.ref a :: st)) Q := by
  subst hp
  obtain ⟨T', X', e', stp⟩ := getF X hx hZ hown w via eT F (g := mkF m pc Ls (.ref a :: st)) rfl rfl hd
  exact own_step stp (k T' X' e')
theorem own_putF (X : Stand p l e R s m args below meth c T locs cells slots) (hx : p.tables.exec = Jvm.exec) (hZ : Z.Warmed39 s.vm) {own R0 O n d host C : String} {index kk : Nat} {ty : FieldType} (hown : s.vm.findClass own = some m.cls) (w : (Jvm.Cond.fieldLink own index R0 n d).before a0 Z = true ∨ (Jvm.Cond.fieldLinkNest own index R0 n d host).before a0 Z = true) (via : Via Z R0 O n d) (eT : T.heap = h) {a : Addr} {v old : Value} (F : Fld Z h a O n d old) (E : Exa Z h a C)
    (L : (Jvm.Cond.lays C O n d).before a0 Z = true ∨ ((Jvm.Cond.laysFinal C O n d).before a0 Z = true ∧ own = O ∧ meth.name = "<init>")) (wi : (Jvm.Cond.instantiable C kk).before a0 Z = true) (hty : parseFieldDescriptor d = some ty) (hn : narrow ty v = v) (hf : fits ty v = true) (hp : pc + 3 = pc') (hd : decode c.code pc = .ok (.putfield index, 3))
    (k : ∀ T' h', Stand p l e R s m args below meth c T' (locs ++ [⟨a, Jvm.RoadKit.slotOf Z O n d⟩]) cells slots → T'.heap = h' → Wr h h' a (Jvm.RoadKit.slotOf Z O n d) v → own_Goes p e below T' (mkF m pc' Ls st) Q) : own_Goes p e below T (mkF m pc Ls (v :: .ref a :: st)) Q := by
  subst hp
  obtain ⟨T', h', X', e', W', stp⟩ := putF X hx hZ hown w via eT F E L wi hty hn hf (g := mkF m pc Ls (v :: .ref a :: st)) rfl rfl hd
  exact own_step stp (k T' h' X' e' W')
theorem own_getS (X : Stand p l e R s m args below meth c T locs cells slots) (hx : p.tables.exec = Jvm.exec) (hZ : Z.Warmed39 s.vm) {own R0 O n d : String} {index : Nat} (hown : s.vm.findClass own = some m.cls) (w : (Jvm.Cond.fieldLink own index R0 n d).before a0 Z = true) (via : Via Z R0 O n d) (eT : T.heap = h) {v : Value} (F : Sta Z h O n d v) (hp : pc + 3 = pc') (hd : decode c.code pc = .ok (.getstatic index, 3))
    (k : ∀ T', Stand p l e R s m args below meth c T' locs cells slots → T'.heap = h → own_Goes p e below T' (mkF m pc' Ls (v :: st)) Q) : own_Goes p e below T (mkF m pc Ls st) Q := by
  subst hp
  obtain ⟨T', X', e', stp⟩ := getS X hx hZ (host := "") hown w via eT F (g := mkF m pc Ls st) rfl hd
  exact own_step stp (k T' X' e')
theorem own_new (X : Stand p l e R s m args below meth c T locs cells slots) (hx : p.tables.exec = Jvm.exec) (hZ : Z.Warmed39 s.vm) {own C : String} {index n : Nat} (hown : s.vm.findClass own = some m.cls) (w : (Jvm.Cond.classLink own index C).before a0 Z = true) (wi : (Jvm.Cond.instantiable C n).before a0 Z = true) (wz : (Jvm.Cond.initialized C).before a0 Z = true) (eT : T.heap = h) (hp : pc + 3 = pc') (hd : decode c.code pc = .ok (.new index, 3)) (hc : cells + 1 ≤ R.cells) (hl : slots + n ≤ R.slots)
    (k : ∀ T' h', Stand p l e R s m args below meth c T' locs (cells + 1) (slots + n) → T'.heap = h' → Ext h h' → Exa Z h' h.size C → (∀ {O nm d : String} {ty : FieldType}, Laid Z a0 C O nm d → parseFieldDescriptor d = some ty → Fld Z h' h.size O nm d (defaultValue ty)) → own_Goes p e below T' (mkF m pc' Ls (.ref h.size :: st)) Q) : own_Goes p e below T (mkF m pc Ls st) Q := by
  subst hp
  obtain ⟨T', h', X', e', E', A', D', -, stp⟩ := newO X hx hZ hown w wi wz eT (g := mkF m pc Ls st) rfl hd hc hl
  exact own_step stp (k T' h' X' e' E' A' D')
theorem own_initO (X : Stand p l e R s m args below meth c T locs cells slots) (hx : p.tables.exec = Jvm.exec) (hZ : Z.Warmed39 s.vm) {own : String} {idx : Nat} (hown : s.vm.findClass own = some m.cls) (w1 : (Jvm.Cond.methodLink own idx Lib.objectInit).before a0 Z = true) (w2 : (Jvm.Cond.instanceMethod Lib.objectInit).before a0 Z = true) (w3 : (Jvm.Cond.code Lib.objectInit ⟨#[0xb1]⟩ 1 none).before a0 Z = true) (eT : T.heap = h) (hsize : Ls.size = c.maxLocals) {a : Addr} (hp : pc + 3 = pc') (hd : decode c.code pc = .ok (.invokespecial idx, 3)) (hf : 1 ≤ R.frames) {W : Nat} (hW : (st.map fun v => v.category).sum ≤ W) (hl : W + 12 ≤ R.locals)
    (k : ∀ T', Stand p l e R s m args below meth c T' locs cells slots → T'.heap = h → own_Goes p e below T' (mkF m pc' Ls st) Q) : own_Goes p e below T (mkF m pc Ls (.ref a :: st)) Q := by
  subst hp
  obtain ⟨T', X', e', stp⟩ := initO X hx hZ hown w1 w2 w3 eT (g := mkF m pc Ls (.ref a :: st)) rfl hsize rfl hd hf (W := W) (by show 2 * 0 + _ ≤ _; omega) hl
  exact own_step stp (k T' X' e')
theorem own_callS (X : Stand p l e R s m args below meth c T locs cells slots) (hx : p.tables.exec = Jvm.exec) (hZ : Z.Warmed39 s.vm) {own : String} {index : Nat} {y : MethodName} {bytes : ByteArray} {maxL : Nat} {rt : Option FieldType} (hown : s.vm.findClass own = some m.cls) (w1 : (Jvm.Cond.methodLink own index y).before a0 Z = true) (w2 : (Jvm.Cond.static y).before a0 Z = true) (w3 : (Jvm.Cond.initialized y.cls).before a0 Z = true) (w4 : (Jvm.Cond.code y bytes maxL rt).before a0 Z = true) (hy : y.cls ≠ "java/lang/invoke/MethodHandle" ∧ y.cls ≠ "java/lang/invoke/VarHandle") {rm : Room} {as' : Array Value} {K : Option Value → Heap → List Loc → Prop} {W : Nat} (hM : MetFree l y (head1 [Jvm.Cond.code y bytes maxL rt] rm) (fun a U => a = as' ∧ Z.Warmed39 U.vm ∧ U.heap = h) (fun _ _ _ _ _ => True) (fun _ U o U' => ∃ v L, o = .returned v ∧ K v U'.heap L ∧ FrameEnd U o U' L rm.cells rm.slots)) (hf : rm.frames + 1 ≤ R.frames) (hl : W + (maxL + 11) + rm.locals ≤ R.locals) (hc : cells + rm.cells ≤ R.cells) (hs : slots + rm.slots ≤ R.slots) (eT : T.heap = h) (hsize : Ls.size = c.maxLocals) {argsL rest : List Value} (has : argsL.toArray = as') (hlen : ∀ sig, parseMethodDescriptor y.desc = some sig → argsL.length = sig.parameters.length) (hst : st = argsL.reverse ++ rest) (hW : (rest.map fun v => v.category).sum ≤ W) (hp : pc + 3 = pc') (hd : decode c.code pc = .ok (.invokestatic index, 3))
    (k : ∀ v T' L, Stand p l e R s m args below meth c T' (locs ++ L) (cells + rm.cells) (slots + rm.slots) → K v T'.heap L → own_Goes p e below T' (mkF m pc' Ls (v.toList ++ rest)) Q) : own_Goes p e below T (mkF m pc Ls st) Q := by
  subst hp
  obtain ⟨v, _, ⟨T', L', k', n'⟩, -, X', ⟨Lc, hQ, l1, y1, z1⟩, stp⟩ := Jvm.LawKit.callS X hx (y := y) hown (mvT hZ w1) (mvT hZ w2) (mvT hZ w3) (mvT hZ w4) hy (backOf (W := W) hM hZ w4 w3 hf hl) (g := mkF m pc Ls st) rfl hsize (argsL := argsL) (rest := rest) hlen hst (by show 2 * 0 + _ ≤ _; omega) hd (fun _ _ => ⟨has, eT, hc, hs⟩)
  dsimp only [Pt.U, Pt.locs, Pt.cells, Pt.slots] at X' l1 y1 z1 stp hQ
  subst l1 y1 z1
  exact own_step stp (k v T' Lc X' hQ)
theorem own_callC (X : Stand p l e R s m args below meth c T locs cells slots) (hx : p.tables.exec = Jvm.exec) (hZ : Z.Warmed39 s.vm) {own : String} {index : Nat} {y : MethodName} {bytes : ByteArray} {maxL : Nat} {a : Addr} (hy1 : y.name = "<init>") (hown : s.vm.findClass own = some m.cls) (w1 : (Jvm.Cond.methodLink own index y).before a0 Z = true) (w2 : (Jvm.Cond.instanceMethod y).before a0 Z = true) (w3 : (Jvm.Cond.initialized y.cls).before a0 Z = true) (w4 : (Jvm.Cond.code y bytes maxL none).before a0 Z = true) (hy : y.cls ≠ "java/lang/invoke/MethodHandle" ∧ y.cls ≠ "java/lang/invoke/VarHandle") {rm : Room} {as' : Array Value} {K : Option Value → Heap → List Loc → Prop} {W : Nat} (hM : MetFree l y (head1 [Jvm.Cond.code y bytes maxL none] rm) (fun a U => a = as' ∧ Z.Warmed39 U.vm ∧ U.heap = h) (fun _ _ _ _ _ => True) (fun _ U o U' => ∃ v L, o = .returned v ∧ K v U'.heap L ∧ FrameEnd U o U' L rm.cells rm.slots)) (hf : rm.frames + 1 ≤ R.frames) (hl : W + (maxL + 11) + rm.locals ≤ R.locals) (hc : cells + rm.cells ≤ R.cells) (hs : slots + rm.slots ≤ R.slots) (eT : T.heap = h) (hsize : Ls.size = c.maxLocals) {argsL rest : List Value} (has : (Value.ref a :: argsL).toArray = as') (hlen : ∀ sig, parseMethodDescriptor y.desc = some sig → argsL.length = sig.parameters.length) (hst : st = argsL.reverse ++ .ref a :: rest) (hW : (rest.map fun v => v.category).sum ≤ W) (hp : pc + 3 = pc') (hd : decode c.code pc = .ok (.invokespecial index, 3))
    (k : ∀ v T' L, Stand p l e R s m args below meth c T' (locs ++ L) (cells + rm.cells) (slots + rm.slots) → K v T'.heap L → own_Goes p e below T' (mkF m pc' Ls (v.toList ++ rest)) Q) : own_Goes p e below T (mkF m pc Ls st) Q := by
  subst hp
  obtain ⟨v, _, ⟨T', L', k', n'⟩, -, X', ⟨Lc, hQ, l1, y1, z1⟩, stp⟩ := X.specialBack hx (y := y) hy1 hown (mvT hZ w1) (mvT hZ w2) (mvT hZ w4) hy (backOf (W := W) hM hZ w4 w3 hf hl) (g := mkF m pc Ls st) rfl hsize (Steps.refl _) (a := a) (argsL := argsL) (rest := rest) hlen hst (by show 2 * 0 + _ ≤ _; omega) hd (fun _ _ => ⟨has, eT, hc, hs⟩)
  dsimp only [Pt.U, Pt.locs, Pt.cells, Pt.slots] at X' l1 y1 z1 stp hQ
  subst l1 y1 z1
  exact own_step (fun _ q => stp.trans q) (k v T' Lc X' hQ)
theorem own_callV (X : Stand p l e R s m args below meth c T locs cells slots) (hx : p.tables.exec = Jvm.exec) (hZ : Z.Warmed39 s.vm) {own C : String} {index : Nat} {y : MethodName} {bytes : ByteArray} {maxL : Nat} {rt : Option FieldType} {a : Addr} (hown : s.vm.findClass own = some m.cls) (w1 : (Jvm.Cond.methodLink own index y).before a0 Z = true) (w2 : (Jvm.Cond.declares y).before a0 Z = true) (w5 : (Jvm.Cond.selects C y y).before a0 Z = true) (w6 : (Jvm.Cond.instanceMethod y).before a0 Z = true) (w3 : (Jvm.Cond.initialized y.cls).before a0 Z = true) (w4 : (Jvm.Cond.code y bytes maxL rt).before a0 Z = true) (E : Exa Z h a C) (hy : y.cls ≠ "java/lang/invoke/MethodHandle" ∧ y.cls ≠ "java/lang/invoke/VarHandle") {rm : Room} {as' : Array Value} {K : Option Value → Heap → List Loc → Prop} {W : Nat} (hM : MetFree l y (head1 [Jvm.Cond.code y bytes maxL rt] rm) (fun a U => a = as' ∧ Z.Warmed39 U.vm ∧ U.heap = h) (fun _ _ _ _ _ => True) (fun _ U o U' => ∃ v L, o = .returned v ∧ K v U'.heap L ∧ FrameEnd U o U' L rm.cells rm.slots)) (hf : rm.frames + 1 ≤ R.frames) (hl : W + (maxL + 11) + rm.locals ≤ R.locals) (hc : cells + rm.cells ≤ R.cells) (hs : slots + rm.slots ≤ R.slots) (eT : T.heap = h) (hsize : Ls.size = c.maxLocals) {argsL rest : List Value} (has : (Value.ref a :: argsL).toArray = as') (hlen : ∀ sig, parseMethodDescriptor y.desc = some sig → argsL.length = sig.parameters.length) (hst : st = argsL.reverse ++ .ref a :: rest) (hW : (rest.map fun v => v.category).sum ≤ W) (hp : pc + 3 = pc') (hd : decode c.code pc = .ok (.invokevirtual index, 3))
    (k : ∀ v T' L, Stand p l e R s m args below meth c T' (locs ++ L) (cells + rm.cells) (slots + rm.slots) → K v T'.heap L → own_Goes p e below T' (mkF m pc' Ls (v.toList ++ rest)) Q) : own_Goes p e below T (mkF m pc Ls st) Q := by
  subst hp
  obtain ⟨cq, kq, qa, qb, qc⟩ := isOf hZ eT E
  obtain ⟨v, _, ⟨T', L', k', n'⟩, -, X', ⟨Lc, hQ, l1, y1, z1⟩, stp⟩ := X.virtualBack hx (y := y) (z := y) hown (mvT hZ w1) (mvT hZ w2) (notFace_of_selects (args := #[]) (mvT hZ w5)) (mvT hZ w5) (mvT hZ w6) hy (backOf (W := W) hM hZ w4 w3 hf hl) qa qc (g := mkF m pc Ls st) rfl hsize (Steps.refl _) (argsL := argsL) (rest := rest) hlen hst (by show 2 * 0 + _ ≤ _; omega) hd (fun _ _ => ⟨has, eT, hc, hs⟩)
  dsimp only [Pt.U, Pt.locs, Pt.cells, Pt.slots] at X' l1 y1 z1 stp hQ
  subst l1 y1 z1
  exact own_step (fun _ q => stp.trans q) (k v T' Lc X' hQ)
theorem own_callP (X : Stand p l e R s m args below meth c T locs cells slots) (hx : p.tables.exec = Jvm.exec) (hZ : Z.Warmed39 s.vm) {own C : String} {index : Nat} {y z z' : MethodName} {bytes : ByteArray} {maxL : Nat} {rt : Option FieldType} {a : Addr} {D : String} (hown : s.vm.findClass own = some m.cls) (w1 : (Jvm.Cond.methodLink own index y).before a0 Z = true) (w6 : (Jvm.Cond.instanceMethod y).before a0 Z = true) (w7 : (Jvm.Cond.privateMethod y).before a0 Z = true) (w5 : (Jvm.Cond.selects C z z').before a0 Z = true) (hcls : z'.cls = y.cls) (w3 : (Jvm.Cond.initialized y.cls).before a0 Z = true) (w4 : (Jvm.Cond.code y bytes maxL rt).before a0 Z = true) (E : Exa Z h a D) (hy : y.cls ≠ "java/lang/invoke/MethodHandle" ∧ y.cls ≠ "java/lang/invoke/VarHandle") {rm : Room} {as' : Array Value} {K : Option Value → Heap → List Loc → Prop} {W : Nat} (hM : MetFree l y (head1 [Jvm.Cond.code y bytes maxL rt] rm) (fun a U => a = as' ∧ Z.Warmed39 U.vm ∧ U.heap = h) (fun _ _ _ _ _ => True) (fun _ U o U' => ∃ v L, o = .returned v ∧ K v U'.heap L ∧ FrameEnd U o U' L rm.cells rm.slots)) (hf : rm.frames + 1 ≤ R.frames) (hl : W + (maxL + 11) + rm.locals ≤ R.locals) (hc : cells + rm.cells ≤ R.cells) (hs : slots + rm.slots ≤ R.slots) (eT : T.heap = h) (hsize : Ls.size = c.maxLocals) {argsL rest : List Value} (has : (Value.ref a :: argsL).toArray = as') (hlen : ∀ sig, parseMethodDescriptor y.desc = some sig → argsL.length = sig.parameters.length) (hst : st = argsL.reverse ++ .ref a :: rest) (hW : (rest.map fun v => v.category).sum ≤ W) (hp : pc + 3 = pc') (hd : decode c.code pc = .ok (.invokevirtual index, 3))
    (k : ∀ v T' L, Stand p l e R s m args below meth c T' (locs ++ L) (cells + rm.cells) (slots + rm.slots) → K v T'.heap L → own_Goes p e below T' (mkF m pc' Ls (v.toList ++ rest)) Q) : own_Goes p e below T (mkF m pc Ls st) Q := by
  subst hp
  have hs5 : (Jvm.Cond.selects C z z').before args s = true := mvT hZ w5
  obtain ⟨c2, r2, m2, -, -, q3, -, kP, hkP, hkPi⟩ := Cond.selects_spec hs5
  have hc2 : s.vm.findClass y.cls = some m2.cls := hcls ▸ findClass_of_methodNamed q3
  have hpriv := Cond.privateMethod_at (mvP hZ w7 (args := #[]))
  have hinst : (Jvm.Cond.instanceMethod y).before args s = true := mvT hZ w6
  have hsel := selects_self_of_private (args := args) hc2 hkP hkPi hpriv hinst hy
  obtain ⟨cq, qc, qc'⟩ := E.cell
  obtain ⟨v, _, ⟨T', L', k', n'⟩, -, X', ⟨Lc, hQ, l1, y1, z1⟩, stp⟩ := X.privateBack hx (y := y) hown (mvT hZ w1) hinst hsel hpriv (mvT hZ w4) hy (backOf (W := W) hM hZ w4 w3 hf hl) (g := mkF m pc Ls st) rfl hsize (Steps.refl _) (a := a) (cell := cq) (by rw [eT]; exact qc) qc' (argsL := argsL) (rest := rest) hlen hst (by show 2 * 0 + _ ≤ _; omega) hd (fun _ _ => ⟨has, eT, hc, hs⟩)
  dsimp only [Pt.U, Pt.locs, Pt.cells, Pt.slots] at X' l1 y1 z1 stp hQ
  subst l1 y1 z1
  exact own_step (fun _ q => stp.trans q) (k v T' Lc X' hQ)
theorem own_in {j : Int32} {k n : Nat} (hj : ¬ j < 0) (hk : j.toNatClampNeg = k) (hn : k < n) {cl : Cell} (hs : cl.slots.size = n) : ¬ (j < 0 ∨ cl.slots.size ≤ j.toNatClampNeg) := by
  rintro (q | q)
  · exact hj q
  · omega
theorem own_Arr.lt {a : Addr} {ty : FieldType} {n : Nat} {f : Nat → Value} (A : own_Arr Z h a ty n f) : a < h.size := by obtain ⟨c, A, -⟩ := A; exact A.lt
theorem own_Arr.ext {a : Addr} {ty : FieldType} {n : Nat} {f : Nat → Value} (E : Ext h h') (A : own_Arr Z h a ty n f) : own_Arr Z h' a ty n f := by obtain ⟨c, A, r⟩ := A; exact ⟨c, A.ext E, r⟩
theorem own_Arr.other {a b : Addr} {ty : FieldType} {n sl : Nat} {v : Value} {f : Nat → Value} (W : Wr h h' a sl v) (A : own_Arr Z h b ty n f) (q : b ≠ a) : own_Arr Z h' b ty n f := by obtain ⟨c, A, r⟩ := A; exact ⟨c, A.other W q, r⟩
theorem own_Arr.keep {a : Addr} {ty : FieldType} {n : Nat} {ws : List Addr} {f : Nat → Value} (K : Keep h h' ws) (A : own_Arr Z h a ty n f) (q : a ∉ ws) : own_Arr Z h' a ty n f := by obtain ⟨c, A, r⟩ := A; exact ⟨c, ⟨K.2.1 a c A.1 q, A.2⟩, r⟩
theorem own_Arr.congr {a : Addr} {ty : FieldType} {n : Nat} {f g : Nat → Value} (A : own_Arr Z h a ty n f) (q : ∀ j, j < n → f j = g j) : own_Arr Z h a ty n g := by
  obtain ⟨c, A, r1, r2, r3⟩ := A
  exact ⟨c, A, r1, r2, fun j hj => by rw [r3 j hj, q j hj]⟩
theorem own_sizWr {a : Addr} {sl n0 : Nat} {v : Value} (W : Wr h h' a sl v) (q : n0 ≤ h.size) : n0 ≤ h'.size := by rw [W.size]; exact q
theorem own_Arr.set {a : Addr} {ty : FieldType} {n k : Nat} {f : Nat → Value} {v : Value} {cl : Cell} (A : Arr Z h a cl ty) (r1 : cl.slots.size = n) (r2 : n < 2 ^ 31) (r3 : ∀ j, j < n → cl.slots[j]? = some (f j)) (hk : k < n) (W : Wr h h' a k v) : own_Arr Z h' a ty n (own_upd f k v) := by
  refine ⟨cl.setSlot k v, Arr.same W A, by rw [sz_set]; exact r1, r2, fun j hj => ?_⟩
  show (cl.slots.setIfInBounds k v)[j]? = _
  rw [Array.getElem?_setIfInBounds]
  by_cases q : k = j
  · subst q; simp [own_upd, r1, hk]
  · have q' : ¬ j = k := fun z => q z.symm
    simp [own_upd, q, q', r3 j hj]
theorem own_newarr (X : Stand p l e R s m args below meth c T locs cells slots) (hx : p.tables.exec = Jvm.exec) (hZ : Z.Warmed39 s.vm) {aty : ArrayType} (w : (Jvm.Cond.arrayClass (newarray.typeOf aty)).before a0 Z = true) (eT : T.heap = h) {n : Int32} (hp : pc + 2 = pc') (hd : decode c.code pc = .ok (.newarray aty, 2)) (hn : ¬ n < 0) {N : Nat} (hN : n.toNatClampNeg = N) {cap : Nat} (hcap : n.toNatClampNeg ≤ cap) (hb : cap * 8 ≤ 536870912) (hc : cells + 1 ≤ R.cells) (hl : slots + cap ≤ R.slots)
    (k : ∀ T' h', Stand p l e R s m args below meth c T' locs (cells + 1) (slots + cap) → T'.heap = h' → Ext h h' → own_Arr Z h' h.size (newarray.typeOf aty) N (fun _ => defaultValue (newarray.typeOf aty)) → own_Goes p e below T' (mkF m pc' Ls (.ref h.size :: st)) Q) : own_Goes p e below T (mkF m pc Ls (.int n :: st)) Q := by
  subst hp
  obtain ⟨T', h', cA, X', e', E', A', stp⟩ := newP X hx hZ w eT (g := mkF m pc Ls (.int n :: st)) rfl hd rfl hn hcap hb hc hl
  refine own_step stp (k T' h' X' e' E' ⟨_, A', by rw [sz_new, hN], by rw [← hN]; exact (back32 hn).2, fun j hj => ?_⟩)
  simp [newA, hN, hj]
theorem own_stI (X : Stand p l e R s m args below meth c T locs cells slots) (hx : p.tables.exec = Jvm.exec) (hZ : Z.Warmed39 s.vm) (eT : T.heap = h) {a : Addr} {n k : Nat} {f : Nat → Value} (A : own_Arr Z h a .int n f) {j : Int32} {x : Int32} (hj : ¬ j < 0) (hk : j.toNatClampNeg = k) (hn : k < n)  (hp : pc + 1 = pc') (hd : decode c.code pc = .ok (.iastore, 1))
    (q : ∀ T' h', Stand p l e R s m args below meth c T' (locs ++ [⟨a, k⟩]) cells slots → T'.heap = h' → Wr h h' a k (.int x) → own_Arr Z h' a .int n (own_upd f k (.int x)) → own_Goes p e below T' (mkF m pc' Ls st) Q) : own_Goes p e below T (mkF m pc Ls (.int x :: .int j :: .ref a :: st)) Q := by
  subst hp
  obtain ⟨cl, A, r1, r2, r3⟩ := A
  obtain ⟨T', h', X', e', W', stp⟩ := stI X hx hZ eT A (own_in hj hk hn r1) (g := mkF m pc Ls (.int x :: .int j :: .ref a :: st)) rfl rfl hd
  subst hk
  exact own_step stp (q T' h' X' e' W' (own_Arr.set A r1 r2 r3 hn W'))
theorem own_stJ (X : Stand p l e R s m args below meth c T locs cells slots) (hx : p.tables.exec = Jvm.exec) (hZ : Z.Warmed39 s.vm) (eT : T.heap = h) {a : Addr} {n k : Nat} {f : Nat → Value} (A : own_Arr Z h a .long n f) {j : Int32} {x : Int64} (hj : ¬ j < 0) (hk : j.toNatClampNeg = k) (hn : k < n)  (hp : pc + 1 = pc') (hd : decode c.code pc = .ok (.lastore, 1))
    (q : ∀ T' h', Stand p l e R s m args below meth c T' (locs ++ [⟨a, k⟩]) cells slots → T'.heap = h' → Wr h h' a k (.long x) → own_Arr Z h' a .long n (own_upd f k (.long x)) → own_Goes p e below T' (mkF m pc' Ls st) Q) : own_Goes p e below T (mkF m pc Ls (.long x :: .int j :: .ref a :: st)) Q := by
  subst hp
  obtain ⟨cl, A, r1, r2, r3⟩ := A
  obtain ⟨T', h', X', e', W', stp⟩ := stJ X hx hZ eT A (own_in hj hk hn r1) (g := mkF m pc Ls (.long x :: .int j :: .ref a :: st)) rfl rfl hd
  subst hk
  exact own_step stp (q T' h' X' e' W' (own_Arr.set A r1 r2 r3 hn W'))
theorem own_stB (X : Stand p l e R s m args below meth c T locs cells slots) (hx : p.tables.exec = Jvm.exec) (hZ : Z.Warmed39 s.vm) (eT : T.heap = h) {a : Addr} {n k : Nat} {f : Nat → Value} (A : own_Arr Z h a .byte n f) {j : Int32} {x y : Int32} (hj : ¬ j < 0) (hk : j.toNatClampNeg = k) (hn : k < n) (hv : nar .byte x = y) (hp : pc + 1 = pc') (hd : decode c.code pc = .ok (.bastore, 1))
    (q : ∀ T' h', Stand p l e R s m args below meth c T' (locs ++ [⟨a, k⟩]) cells slots → T'.heap = h' → Wr h h' a k (.int y) → own_Arr Z h' a .byte n (own_upd f k (.int y)) → own_Goes p e below T' (mkF m pc' Ls st) Q) : own_Goes p e below T (mkF m pc Ls (.int x :: .int j :: .ref a :: st)) Q := by
  subst hp; subst hv
  obtain ⟨cl, A, r1, r2, r3⟩ := A
  obtain ⟨T', h', X', e', W', stp⟩ := stB X hx hZ eT A (own_in hj hk hn r1) (g := mkF m pc Ls (.int x :: .int j :: .ref a :: st)) rfl rfl hd
  subst hk
  exact own_step stp (q T' h' X' e' W' (own_Arr.set A r1 r2 r3 hn W'))
theorem own_stC (X : Stand p l e R s m args below meth c T locs cells slots) (hx : p.tables.exec = Jvm.exec) (hZ : Z.Warmed39 s.vm) (eT : T.heap = h) {a : Addr} {n k : Nat} {f : Nat → Value} (A : own_Arr Z h a .char n f) {j : Int32} {x y : Int32} (hj : ¬ j < 0) (hk : j.toNatClampNeg = k) (hn : k < n) (hv : nar .char x = y) (hp : pc + 1 = pc') (hd : decode c.code pc = .ok (.castore, 1))
    (q : ∀ T' h', Stand p l e R s m args below meth c T' (locs ++ [⟨a, k⟩]) cells slots → T'.heap = h' → Wr h h' a k (.int y) → own_Arr Z h' a .char n (own_upd f k (.int y)) → own_Goes p e below T' (mkF m pc' Ls st) Q) : own_Goes p e below T (mkF m pc Ls (.int x :: .int j :: .ref a :: st)) Q := by
  subst hp; subst hv
  obtain ⟨cl, A, r1, r2, r3⟩ := A
  obtain ⟨T', h', X', e', W', stp⟩ := stC X hx hZ eT A (own_in hj hk hn r1) (g := mkF m pc Ls (.int x :: .int j :: .ref a :: st)) rfl rfl hd
  subst hk
  exact own_step stp (q T' h' X' e' W' (own_Arr.set A r1 r2 r3 hn W'))
theorem own_ldI (X : Stand p l e R s m args below meth c T locs cells slots) (hx : p.tables.exec = Jvm.exec) (hZ : Z.Warmed39 s.vm) (eT : T.heap = h) {a : Addr} {n k : Nat} {f : Nat → Value} (A : own_Arr Z h a .int n f) {j : Int32} (hj : ¬ j < 0) (hk : j.toNatClampNeg = k) (hn : k < n) {v : Value} (hv : f k = v) (hp : pc + 1 = pc') (hd : decode c.code pc = .ok (.iaload, 1)) (q : own_Goes p e below T (mkF m pc' Ls (v :: st)) Q) : own_Goes p e below T (mkF m pc Ls (.int j :: .ref a :: st)) Q := by
  subst hp
  obtain ⟨cl, A, r1, r2, r3⟩ := A
  exact own_step (fun t z => X.iaload hx (j := j) (v := v) (by rw [eT]; exact A.1) (State.isArrayOf_alike hZ.alike A.2.1) A.2.2 (own_in hj hk hn r1) (by rw [hk, r3 k hn, hv]) (g := mkF m pc Ls (.int j :: .ref a :: st)) rfl rfl hd t z) q
theorem own_ldJ (X : Stand p l e R s m args below meth c T locs cells slots) (hx : p.tables.exec = Jvm.exec) (hZ : Z.Warmed39 s.vm) (eT : T.heap = h) {a : Addr} {n k : Nat} {f : Nat → Value} (A : own_Arr Z h a .long n f) {j : Int32} (hj : ¬ j < 0) (hk : j.toNatClampNeg = k) (hn : k < n) {v : Value} (hv : f k = v) (hp : pc + 1 = pc') (hd : decode c.code pc = .ok (.laload, 1)) (q : own_Goes p e below T (mkF m pc' Ls (v :: st)) Q) : own_Goes p e below T (mkF m pc Ls (.int j :: .ref a :: st)) Q := by
  subst hp
  obtain ⟨cl, A, r1, r2, r3⟩ := A
  exact own_step (fun t z => X.laload hx (j := j) (v := v) (by rw [eT]; exact A.1) (State.isArrayOf_alike hZ.alike A.2.1) A.2.2 (own_in hj hk hn r1) (by rw [hk, r3 k hn, hv]) (g := mkF m pc Ls (.int j :: .ref a :: st)) rfl rfl hd t z) q
theorem own_ldB (X : Stand p l e R s m args below meth c T locs cells slots) (hx : p.tables.exec = Jvm.exec) (hZ : Z.Warmed39 s.vm) (eT : T.heap = h) {a : Addr} {n k : Nat} {f : Nat → Value} (A : own_Arr Z h a .byte n f) {j : Int32} (hj : ¬ j < 0) (hk : j.toNatClampNeg = k) (hn : k < n) {v : Value} (hv : f k = v) (hp : pc + 1 = pc') (hd : decode c.code pc = .ok (.baload, 1)) (q : own_Goes p e below T (mkF m pc' Ls (v :: st)) Q) : own_Goes p e below T (mkF m pc Ls (.int j :: .ref a :: st)) Q := by
  subst hp
  obtain ⟨cl, A, r1, r2, r3⟩ := A
  exact own_step (fun t z => X.baloadBytes hx (j := j) (v := v) (by rw [eT]; exact A.1) (State.isArrayOf_alike hZ.alike A.2.1) A.2.2 (own_in hj hk hn r1) (by rw [hk, r3 k hn, hv]) (g := mkF m pc Ls (.int j :: .ref a :: st)) rfl rfl hd t z) q
theorem own_ldC (X : Stand p l e R s m args below meth c T locs cells slots) (hx : p.tables.exec = Jvm.exec) (hZ : Z.Warmed39 s.vm) (eT : T.heap = h) {a : Addr} {n k : Nat} {f : Nat → Value} (A : own_Arr Z h a .char n f) {j : Int32} (hj : ¬ j < 0) (hk : j.toNatClampNeg = k) (hn : k < n) {v : Value} (hv : f k = v) (hp : pc + 1 = pc') (hd : decode c.code pc = .ok (.caload, 1)) (q : own_Goes p e below T (mkF m pc' Ls (v :: st)) Q) : own_Goes p e below T (mkF m pc Ls (.int j :: .ref a :: st)) Q := by
  subst hp
  obtain ⟨cl, A, r1, r2, r3⟩ := A
  exact own_step (fun t z => X.caload hx (j := j) (v := v) (by rw [eT]; exact A.1) (State.isArrayOf_alike hZ.alike A.2.1) A.2.2 (own_in hj hk hn r1) (by rw [hk, r3 k hn, hv]) (g := mkF m pc Ls (.int j :: .ref a :: st)) rfl rfl hd t z) q
theorem own_alen (X : Stand p l e R s m args below meth c T locs cells slots) (hx : p.tables.exec = Jvm.exec) (hZ : Z.Warmed39 s.vm) (eT : T.heap = h) {a : Addr} {ty : FieldType} {n : Nat} {f : Nat → Value} (A : own_Arr Z h a ty n f) {v : Int32} (hv : n.toInt32 = v) (hp : pc + 1 = pc') (hd : decode c.code pc = .ok (.arraylength, 1)) (q : own_Goes p e below T (mkF m pc' Ls (.int v :: st)) Q) : own_Goes p e below T (mkF m pc Ls (.ref a :: st)) Q := by
  subst hp; subst hv
  obtain ⟨cl, A, r1, r2, r3⟩ := A
  subst r1
  exact own_step (fun t z => X.arraylength hx (cell := cl) (by rw [eT]; exact A.1) (State.isArrayOf_alike hZ.alike A.2.1) (g := mkF m pc Ls (.ref a :: st)) rfl rfl hd t z) q
theorem own_instY (X : Stand p l e R s m args below meth c T locs cells slots) (hx : p.tables.exec = Jvm.exec) (hZ : Z.Warmed39 s.vm) {own K : String} {index : Nat} (hown : s.vm.findClass own = some m.cls) (w : (Jvm.Cond.classLink own index K).before a0 Z = true) (eT : T.heap = h) {a : Addr} (F : Ins Z h a K true) (hp : pc + 3 = pc') (hd : decode c.code pc = .ok (.instanceof index, 3))
    (k : ∀ T', Stand p l e R s m args below meth c T' locs cells slots → T'.heap = h → own_Goes p e below T' (mkF m pc' Ls (.int 1 :: st)) Q) : own_Goes p e below T (mkF m pc Ls (.ref a :: st)) Q := by
  subst hp
  obtain ⟨T', X', e', stp⟩ := instY X hx hZ hown w eT F (g := mkF m pc Ls (.ref a :: st)) rfl rfl hd
  exact own_step stp (k T' X' e')
theorem own_castY (X : Stand p l e R s m args below meth c T locs cells slots) (hx : p.tables.exec = Jvm.exec) (hZ : Z.Warmed39 s.vm) {own K : String} {index : Nat} (hown : s.vm.findClass own = some m.cls) (w : (Jvm.Cond.classLink own index K).before a0 Z = true) (eT : T.heap = h) {a : Addr} (F : Ins Z h a K true) (hp : pc + 3 = pc') (hd : decode c.code pc = .ok (.checkcast index, 3))
    (k : ∀ T', Stand p l e R s m args below meth c T' locs cells slots → T'.heap = h → own_Goes p e below T' (mkF m pc' Ls (.ref a :: st)) Q) : own_Goes p e below T (mkF m pc Ls (.ref a :: st)) Q := by
  subst hp
  obtain ⟨T', X', e', stp⟩ := castY X hx hZ hown w eT F (g := mkF m pc Ls (.ref a :: st)) rfl rfl hd
  exact own_step stp (k T' X' e')
theorem own_instNo (X : Stand p l e R s m args below meth c T locs cells slots) (hx : p.tables.exec = Jvm.exec) (hZ : Z.Warmed39 s.vm) {own K C : String} {index : Nat} (hown : s.vm.findClass own = some m.cls) (w : (Jvm.Cond.classLink own index K).before a0 Z = true) (eT : T.heap = h) {a : Addr} (E : Exa Z h a C) (F : ∃ c t, Z.vm.findClass C = some c ∧ Z.vm.findClass K = some t ∧ Z.vm.assignable c t = false) (hp : pc + 3 = pc') (hd : decode c.code pc = .ok (.instanceof index, 3))
    (k : ∀ T', Stand p l e R s m args below meth c T' locs cells slots → T'.heap = h → own_Goes p e below T' (mkF m pc' Ls (.int 0 :: st)) Q) : own_Goes p e below T (mkF m pc Ls (.ref a :: st)) Q := by
  subst hp
  obtain ⟨T', X', e', stp⟩ := instNo X hx hZ hown w eT E F (g := mkF m pc Ls (.ref a :: st)) rfl rfl hd
  exact own_step stp (k T' X' e')
theorem own_instNull (X : Stand p l e R s m args below meth c T locs cells slots) (hx : p.tables.exec = Jvm.exec) {index : Nat} (hp : pc + 3 = pc') (hd : decode c.code pc = .ok (.instanceof index, 3)) (k : own_Goes p e below T (mkF m pc' Ls (.int 0 :: st)) Q) : own_Goes p e below T (mkF m pc Ls (.null :: st)) Q := by
  subst hp; exact own_step (fun t q => X.instanceofNull hx (g := mkF m pc Ls (.null :: st)) rfl rfl hd t q) k
theorem own_fitR {v : Value} {C : String} (hv : v.isRef = true) : fits (.object C) v = true := by cases v <;> simp_all [fits, Value.isRef]
end Own
/-! 2. THE BODIES -/
def own_fwd (p : Int32) : Int32 := if (p &&& (1 : Int32)) = 0 then 1 else 0
def own_nx : Int32 → List Int32 → Nat → Nat
  | _, [], i => i
  | x, y :: r, i => if (own_fwd y) = (own_fwd x) then own_nx y r (i + 1) else i
def own_turn (z x y : Int32) : Int32 := if z = 0 then 0 else if (own_fwd y) = (own_fwd x) then 0 else 1
def own_gt (p k : Int32) : Int32 := if k < p then 1 else 0
def own_tot (p t0 t1 t2 t3 t4 : Int32) : Int32 := ((((own_turn (own_gt p 1) t0 t1) + (own_turn (own_gt p 2) t1 t2)) + (own_turn (own_gt p 3) t2 t3)) + (own_turn (own_gt p 4) t3 t4))
def own_sel (T : Int32) (aP aJ aC : Addr) : Addr := if T = 0 then aP else if T = (1 : Int32) then aJ else aC
theorem own_bit (x : Int32) : (x &&& (1 : Int32)) = 0 ∨ (x &&& (1 : Int32)) = 1 := and_one x
theorem own_par (x y : Int32) : own_fwd y = own_fwd x ↔ (x &&& (1 : Int32)) = (y &&& (1 : Int32)) := by
  unfold own_fwd
  rcases own_bit x with h | h <;> rcases own_bit y with g | g <;> rw [h, g] <;> decide
theorem ef_rm_fwd (m : MethodId) (p1 : Int32) : entryFrame m #[(.int p1)] 1 = mkF m 0 #[.val (.int p1)] [] := by first | (simp [entryFrame, mkF, argsToLocals, Value.category]; done) | rfl
def K_rm_fwd  (Z : State) (h0 : Heap) (n0 : Nat) (p1 : Int32) (v : Option Value) (h : Heap) (L : List Loc) : Prop := v = some (.int (own_fwd p1)) ∧ Fr n0 L ∧ h = h0
theorem d_prog_15_method_20_code_0 : decode prog_15_method_20_code 0 = .ok (.iload_n 0, 1) := by decide +kernel
theorem d_prog_15_method_20_code_1 : decode prog_15_method_20_code 1 = .ok (.iconst 1, 1) := by decide +kernel
theorem d_prog_15_method_20_code_2 : decode prog_15_method_20_code 2 = .ok (.iand, 1) := by decide +kernel
theorem d_prog_15_method_20_code_3 : decode prog_15_method_20_code 3 = .ok (.ifCond .ne 7, 3) := by decide +kernel
theorem d_prog_15_method_20_code_6 : decode prog_15_method_20_code 6 = .ok (.iconst 1, 1) := by decide +kernel
theorem d_prog_15_method_20_code_7 : decode prog_15_method_20_code 7 = .ok (.goto 4, 3) := by decide +kernel
theorem d_prog_15_method_20_code_11 : decode prog_15_method_20_code 11 = .ok (.ireturn, 1) := by decide +kernel
theorem d_prog_15_method_20_code_10 : decode prog_15_method_20_code 10 = .ok (.iconst 0, 1) := by decide +kernel
theorem pn_com_example_rhoquery_rhoquery_InstanceGraph : plainName "com/example/rhoquery/rhoquery/InstanceGraph" = true := by first | (simp [plainName, overriddenIn]; done) | decide +kernel
set_option maxRecDepth 65536 in
set_option maxHeartbeats 40000000 in
theorem rm_fwd (l : Launch) (Z : State) (a0 : Array Value) (hw : ∀ d ∈ tables_1, d.before a0 Z = true) (ws : List Jvm.Cond)  (p1 : Int32) (h0 : Heap) (n0 : Nat) (Z0 : n0 ≤ h0.size) :
    MetFree l (⟨"com/example/rhoquery/rhoquery/InstanceGraph", "isForward", "(I)Z"⟩ : MethodName) (head1 (Jvm.Cond.code (⟨"com/example/rhoquery/rhoquery/InstanceGraph", "isForward", "(I)Z"⟩ : MethodName) prog_15_method_20_code 1 (some .boolean) :: ws) ({ frames := 0, cells := 0, slots := 0, locals := 0 } : Room)) (fun a U => a = #[(.int p1)] ∧ Z.Warmed39 U.vm ∧ U.heap = h0) (fun _ _ _ _ _ => True) (fun _ U o U' => ∃ v L, o = .returned v ∧ (K_rm_fwd  Z h0 n0 p1) v U'.heap L ∧ FrameEnd U o U' L ({ frames := 0, cells := 0, slots := 0, locals := 0 } : Room).cells ({ frames := 0, cells := 0, slots := 0, locals := 0 } : Room).slots) := by
  refine own_body (plainFor_of_name pn_com_example_rhoquery_rhoquery_InstanceGraph) ?_
  intro p e s m below meth c s₁ hx hby hml hown hnm hret hlk hZ X0 e0
  have hown : s.vm.findClass "com/example/rhoquery/rhoquery/InstanceGraph" = some m.cls := hown
  have N0 := Fr.nil n0
  rw [ef_rm_fwd m p1]
  refine own_iloadN X0 hx (pc' := 1) rfl (hb hby d_prog_15_method_20_code_0) rfl ?_
  refine own_iconst X0 hx (v := (1 : Int32)) (pc' := 2) rfl (hb hby d_prog_15_method_20_code_1) rfl ?_
  refine own_iand X0 hx (v := (p1 &&& (1 : Int32))) (pc' := 3) rfl (hb hby d_prog_15_method_20_code_2) rfl ?_
  by_cases c3_1 : (p1 &&& (1 : Int32)) = 0
  · refine own_ifF X0 hx (pc' := 6) rfl (hb hby d_prog_15_method_20_code_3) (XT.i0_ne_f c3_1) ?_
    refine own_iconst X0 hx (v := (1 : Int32)) (pc' := 7) rfl (hb hby d_prog_15_method_20_code_6) rfl ?_
    refine own_goto X0 hx (pc' := 11) (hb hby d_prog_15_method_20_code_7) (by decide) (by decide) ?_
    refine own_zret X0 hx hlk hret (by simp) (hb hby d_prog_15_method_20_code_11) (by decide) (by decide) ?_
    rw [e0]
    exact ⟨by first | (simp only [own_fwd, if_pos c3_1]; done) | (simp only [own_fwd, if_pos c3_1]; rfl), N0, rfl⟩
  · refine own_ifT X0 hx (pc' := 10) (hb hby d_prog_15_method_20_code_3) (XT.i0_ne_t c3_1) (by decide) (by decide) ?_
    refine own_iconst X0 hx (v := (0 : Int32)) (pc' := 11) rfl (hb hby d_prog_15_method_20_code_10) rfl ?_
    refine own_zret X0 hx hlk hret (by simp) (hb hby d_prog_15_method_20_code_11) (by decide) (by decide) ?_
    rw [e0]
    exact ⟨by first | (simp only [own_fwd, if_neg c3_1]; done) | (simp only [own_fwd, if_neg c3_1]; rfl), N0, rfl⟩
theorem ef_rm_turn (m : MethodId) (p1 : Int32) (p2 : Int32) (p3 : Int32) : entryFrame m #[(.int p1), (.int p2), (.int p3)] 3 = mkF m 0 #[.val (.int p1), .val (.int p2), .val (.int p3)] [] := by first | (simp [entryFrame, mkF, argsToLocals, Value.category]; done) | rfl
def K_rm_turn  (Z : State) (h0 : Heap) (n0 : Nat) (p1 : Int32) (p2 : Int32) (p3 : Int32) (v : Option Value) (h : Heap) (L : List Loc) : Prop := v = some (.int (own_turn p1 p2 p3)) ∧ Fr n0 L ∧ h = h0
theorem d_method_2_code_0 : decode method_2_code 0 = .ok (.iload_n 0, 1) := by decide +kernel
theorem d_method_2_code_1 : decode method_2_code 1 = .ok (.ifCond .ne 5, 3) := by decide +kernel
theorem d_method_2_code_4 : decode method_2_code 4 = .ok (.iconst 0, 1) := by decide +kernel
theorem d_method_2_code_5 : decode method_2_code 5 = .ok (.ireturn, 1) := by decide +kernel
theorem d_method_2_code_6 : decode method_2_code 6 = .ok (.iload_n 1, 1) := by decide +kernel
theorem d_method_2_code_7 : decode method_2_code 7 = .ok (.iconst 1, 1) := by decide +kernel
theorem d_method_2_code_8 : decode method_2_code 8 = .ok (.iand, 1) := by decide +kernel
theorem d_method_2_code_9 : decode method_2_code 9 = .ok (.iload_n 2, 1) := by decide +kernel
theorem d_method_2_code_10 : decode method_2_code 10 = .ok (.iconst 1, 1) := by decide +kernel
theorem d_method_2_code_11 : decode method_2_code 11 = .ok (.iand, 1) := by decide +kernel
theorem d_method_2_code_12 : decode method_2_code 12 = .ok (.if_icmp .eq 7, 3) := by decide +kernel
theorem d_method_2_code_19 : decode method_2_code 19 = .ok (.iconst 0, 1) := by decide +kernel
theorem d_method_2_code_20 : decode method_2_code 20 = .ok (.ireturn, 1) := by decide +kernel
theorem d_method_2_code_15 : decode method_2_code 15 = .ok (.iconst 1, 1) := by decide +kernel
theorem d_method_2_code_16 : decode method_2_code 16 = .ok (.goto 4, 3) := by decide +kernel
theorem pn_com_example_rhoquery_rhoquery_PathKindOfPinLaw : plainName "com/example/rhoquery/rhoquery/PathKindOfPinLaw" = true := by first | (simp [plainName, overriddenIn]; done) | decide +kernel
set_option maxRecDepth 65536 in
set_option maxHeartbeats 40000000 in
theorem rm_turn (l : Launch) (Z : State) (a0 : Array Value) (hw : ∀ d ∈ tables_1, d.before a0 Z = true) (ws : List Jvm.Cond)  (p1 : Int32) (p2 : Int32) (p3 : Int32) (h0 : Heap) (n0 : Nat) (Z0 : n0 ≤ h0.size) :
    MetFree l (⟨"com/example/rhoquery/rhoquery/PathKindOfPinLaw", "turn", "(ZII)I"⟩ : MethodName) (head1 (Jvm.Cond.code (⟨"com/example/rhoquery/rhoquery/PathKindOfPinLaw", "turn", "(ZII)I"⟩ : MethodName) method_2_code 3 (some .int) :: ws) ({ frames := 0, cells := 0, slots := 0, locals := 0 } : Room)) (fun a U => a = #[(.int p1), (.int p2), (.int p3)] ∧ Z.Warmed39 U.vm ∧ U.heap = h0) (fun _ _ _ _ _ => True) (fun _ U o U' => ∃ v L, o = .returned v ∧ (K_rm_turn  Z h0 n0 p1 p2 p3) v U'.heap L ∧ FrameEnd U o U' L ({ frames := 0, cells := 0, slots := 0, locals := 0 } : Room).cells ({ frames := 0, cells := 0, slots := 0, locals := 0 } : Room).slots) := by
  refine own_body (plainFor_of_name pn_com_example_rhoquery_rhoquery_PathKindOfPinLaw) ?_
  intro p e s m below meth c s₁ hx hby hml hown hnm hret hlk hZ X0 e0
  have hown : s.vm.findClass "com/example/rhoquery/rhoquery/PathKindOfPinLaw" = some m.cls := hown
  have N0 := Fr.nil n0
  rw [ef_rm_turn m p1 p2 p3]
  refine own_iloadN X0 hx (pc' := 1) rfl (hb hby d_method_2_code_0) rfl ?_
  by_cases c1_1 : p1 = 0
  · refine own_ifF X0 hx (pc' := 4) rfl (hb hby d_method_2_code_1) (XT.i0_ne_f c1_1) ?_
    refine own_iconst X0 hx (v := (0 : Int32)) (pc' := 5) rfl (hb hby d_method_2_code_4) rfl ?_
    refine own_iret X0 hx hlk hret (hb hby d_method_2_code_5) (by decide) (by decide) ?_
    rw [e0]
    exact ⟨by first | (simp only [own_turn, if_pos c1_1]; done) | (simp only [own_turn, if_pos c1_1]; rfl), N0, rfl⟩
  · refine own_ifT X0 hx (pc' := 6) (hb hby d_method_2_code_1) (XT.i0_ne_t c1_1) (by decide) (by decide) ?_
    refine own_iloadN X0 hx (pc' := 7) rfl (hb hby d_method_2_code_6) rfl ?_
    refine own_iconst X0 hx (v := (1 : Int32)) (pc' := 8) rfl (hb hby d_method_2_code_7) rfl ?_
    refine own_iand X0 hx (v := (p2 &&& (1 : Int32))) (pc' := 9) rfl (hb hby d_method_2_code_8) rfl ?_
    refine own_iloadN X0 hx (pc' := 10) rfl (hb hby d_method_2_code_9) rfl ?_
    refine own_iconst X0 hx (v := (1 : Int32)) (pc' := 11) rfl (hb hby d_method_2_code_10) rfl ?_
    refine own_iand X0 hx (v := (p3 &&& (1 : Int32))) (pc' := 12) rfl (hb hby d_method_2_code_11) rfl ?_
    by_cases c12_2 : (p2 &&& (1 : Int32)) = (p3 &&& (1 : Int32))
    · refine own_icmpT X0 hx (pc' := 19) (hb hby d_method_2_code_12) (XT.ii_eq_t c12_2) (by decide) (by decide) ?_
      refine own_iconst X0 hx (v := (0 : Int32)) (pc' := 20) rfl (hb hby d_method_2_code_19) rfl ?_
      refine own_iret X0 hx hlk hret (hb hby d_method_2_code_20) (by decide) (by decide) ?_
      rw [e0]
      exact ⟨by first | (simp only [own_turn, if_neg c1_1, if_pos ((own_par p2 p3).mpr c12_2)]; done) | (simp only [own_turn, if_neg c1_1, if_pos ((own_par p2 p3).mpr c12_2)]; rfl), N0, rfl⟩
    · refine own_icmpF X0 hx (pc' := 15) rfl (hb hby d_method_2_code_12) (XT.ii_eq_f c12_2) ?_
      refine own_iconst X0 hx (v := (1 : Int32)) (pc' := 16) rfl (hb hby d_method_2_code_15) rfl ?_
      refine own_goto X0 hx (pc' := 20) (hb hby d_method_2_code_16) (by decide) (by decide) ?_
      refine own_iret X0 hx hlk hret (hb hby d_method_2_code_20) (by decide) (by decide) ?_
      rw [e0]
      exact ⟨by first | (simp only [own_turn, if_neg c1_1, if_neg (fun q => c12_2 ((own_par p2 p3).mp q))]; done) | (simp only [own_turn, if_neg c1_1, if_neg (fun q => c12_2 ((own_par p2 p3).mp q))]; rfl), N0, rfl⟩
theorem ef_rm_next (m : MethodId) (a1 : Addr) (p2 : Int32) (p3 : Int32) : entryFrame m #[(.ref a1), (.int p2), (.int p3)] 4 = mkF m 0 #[.val (.ref a1), .val (.int p2), .val (.int p3), .unset] [] := by first | (simp [entryFrame, mkF, argsToLocals, Value.category]; done) | rfl
def K_rm_next (f1 : Nat → Value) (t0 : Int32) (t1 : Int32) (t2 : Int32) (t3 : Int32) (t4 : Int32) (prev : Int32) (lst : List Int32) (fr : Nat) (Z : State) (h0 : Heap) (n0 : Nat) (a1 : Addr) (p2 : Int32) (p3 : Int32) (v : Option Value) (h : Heap) (L : List Loc) : Prop := v = some (.int (Int32.ofNat (own_nx prev lst fr))) ∧ Fr n0 L ∧ h = h0
theorem d_prog_28_method_7_code_0 : decode prog_28_method_7_code 0 = .ok (.iload_n 2, 1) := by decide +kernel
theorem d_prog_28_method_7_code_1 : decode prog_28_method_7_code 1 = .ok (.istore_n 3, 1) := by decide +kernel
theorem d_prog_28_method_7_code_2 : decode prog_28_method_7_code 2 = .ok (.iload_n 3, 1) := by decide +kernel
theorem d_prog_28_method_7_code_3 : decode prog_28_method_7_code 3 = .ok (.iload_n 1, 1) := by decide +kernel
theorem d_prog_28_method_7_code_4 : decode prog_28_method_7_code 4 = .ok (.if_icmp .ge 26, 3) := by decide +kernel
theorem d_prog_28_method_7_code_30 : decode prog_28_method_7_code 30 = .ok (.iload_n 3, 1) := by decide +kernel
theorem d_prog_28_method_7_code_31 : decode prog_28_method_7_code 31 = .ok (.ireturn, 1) := by decide +kernel
theorem d_prog_28_method_7_code_7 : decode prog_28_method_7_code 7 = .ok (.aload_n 0, 1) := by decide +kernel
theorem d_prog_28_method_7_code_8 : decode prog_28_method_7_code 8 = .ok (.iload_n 3, 1) := by decide +kernel
theorem d_prog_28_method_7_code_9 : decode prog_28_method_7_code 9 = .ok (.iaload, 1) := by decide +kernel
theorem d_prog_28_method_7_code_10 : decode prog_28_method_7_code 10 = .ok (.invokestatic 69, 3) := by decide +kernel
theorem pd__I_Z : parseMethodDescriptor "(I)Z" = some ⟨[.int], some .boolean⟩ := by decide +kernel
theorem d_prog_28_method_7_code_13 : decode prog_28_method_7_code 13 = .ok (.aload_n 0, 1) := by decide +kernel
theorem d_prog_28_method_7_code_14 : decode prog_28_method_7_code 14 = .ok (.iload_n 3, 1) := by decide +kernel
theorem d_prog_28_method_7_code_15 : decode prog_28_method_7_code 15 = .ok (.iconst 1, 1) := by decide +kernel
theorem d_prog_28_method_7_code_16 : decode prog_28_method_7_code 16 = .ok (.isub, 1) := by decide +kernel
theorem d_prog_28_method_7_code_17 : decode prog_28_method_7_code 17 = .ok (.iaload, 1) := by decide +kernel
theorem d_prog_28_method_7_code_18 : decode prog_28_method_7_code 18 = .ok (.invokestatic 69, 3) := by decide +kernel
theorem d_prog_28_method_7_code_21 : decode prog_28_method_7_code 21 = .ok (.if_icmp .ne 9, 3) := by decide +kernel
theorem d_prog_28_method_7_code_24 : decode prog_28_method_7_code 24 = .ok (.iinc 3 1, 3) := by decide +kernel
theorem d_prog_28_method_7_code_27 : decode prog_28_method_7_code 27 = .ok (.goto (-25), 3) := by decide +kernel
theorem pn_com_example_rhoquery_rhoquery_PathKind : plainName "com/example/rhoquery/rhoquery/PathKind" = true := by first | (simp [plainName, overriddenIn]; done) | decide +kernel
set_option maxRecDepth 65536 in
set_option maxHeartbeats 40000000 in
theorem rm_next (l : Launch) (Z : State) (a0 : Array Value) (hw : ∀ d ∈ tables_1, d.before a0 Z = true) (ws : List Jvm.Cond) (f1 : Nat → Value) (t0 : Int32) (t1 : Int32) (t2 : Int32) (t3 : Int32) (t4 : Int32) (prev : Int32) (lst : List Int32) (fr : Nat) (a1 : Addr) (p2 : Int32) (p3 : Int32) (h0 : Heap) (n0 : Nat) (Z0 : n0 ≤ h0.size) (I0 : own_Arr Z h0 a1 .int 5 f1) (hf : f1 0 = .int t0 ∧ f1 1 = .int t1 ∧ f1 2 = .int t2 ∧ f1 3 = .int t3 ∧ f1 4 = .int t4) (hn : (p2 = (1 : Int32) ∧ p3 = (1 : Int32) ∧ t0 = prev ∧ [] = lst ∧ 1 = fr) ∨ (p2 = (2 : Int32) ∧ p3 = (1 : Int32) ∧ t0 = prev ∧ [t1] = lst ∧ 1 = fr) ∨ (p2 = (2 : Int32) ∧ p3 = (2 : Int32) ∧ t1 = prev ∧ [] = lst ∧ 2 = fr) ∨ (p2 = (3 : Int32) ∧ p3 = (1 : Int32) ∧ t0 = prev ∧ [t1, t2] = lst ∧ 1 = fr) ∨ (p2 = (3 : Int32) ∧ p3 = (2 : Int32) ∧ t1 = prev ∧ [t2] = lst ∧ 2 = fr) ∨ (p2 = (3 : Int32) ∧ p3 = (3 : Int32) ∧ t2 = prev ∧ [] = lst ∧ 3 = fr) ∨ (p2 = (4 : Int32) ∧ p3 = (1 : Int32) ∧ t0 = prev ∧ [t1, t2, t3] = lst ∧ 1 = fr) ∨ (p2 = (4 : Int32) ∧ p3 = (2 : Int32) ∧ t1 = prev ∧ [t2, t3] = lst ∧ 2 = fr) ∨ (p2 = (4 : Int32) ∧ p3 = (3 : Int32) ∧ t2 = prev ∧ [t3] = lst ∧ 3 = fr) ∨ (p2 = (4 : Int32) ∧ p3 = (4 : Int32) ∧ t3 = prev ∧ [] = lst ∧ 4 = fr) ∨ (p2 = (5 : Int32) ∧ p3 = (1 : Int32) ∧ t0 = prev ∧ [t1, t2, t3, t4] = lst ∧ 1 = fr) ∨ (p2 = (5 : Int32) ∧ p3 = (2 : Int32) ∧ t1 = prev ∧ [t2, t3, t4] = lst ∧ 2 = fr) ∨ (p2 = (5 : Int32) ∧ p3 = (3 : Int32) ∧ t2 = prev ∧ [t3, t4] = lst ∧ 3 = fr) ∨ (p2 = (5 : Int32) ∧ p3 = (4 : Int32) ∧ t3 = prev ∧ [t4] = lst ∧ 4 = fr) ∨ (p2 = (5 : Int32) ∧ p3 = (5 : Int32) ∧ t4 = prev ∧ [] = lst ∧ 5 = fr)) :
    MetFree l (⟨"com/example/rhoquery/rhoquery/PathKind", "nextTurn", "([III)I"⟩ : MethodName) (head1 (Jvm.Cond.code (⟨"com/example/rhoquery/rhoquery/PathKind", "nextTurn", "([III)I"⟩ : MethodName) prog_28_method_7_code 4 (some .int) :: ws) ({ frames := 1, cells := 0, slots := 0, locals := 13 } : Room)) (fun a U => a = #[(.ref a1), (.int p2), (.int p3)] ∧ Z.Warmed39 U.vm ∧ U.heap = h0) (fun _ _ _ _ _ => True) (fun _ U o U' => ∃ v L, o = .returned v ∧ (K_rm_next f1 t0 t1 t2 t3 t4 prev lst fr Z h0 n0 a1 p2 p3) v U'.heap L ∧ FrameEnd U o U' L ({ frames := 1, cells := 0, slots := 0, locals := 13 } : Room).cells ({ frames := 1, cells := 0, slots := 0, locals := 13 } : Room).slots) := by
  refine own_body (plainFor_of_name pn_com_example_rhoquery_rhoquery_PathKind) ?_
  intro p e s m below meth c s₁ hx hby hml hown hnm hret hlk hZ X0 e0
  have hown : s.vm.findClass "com/example/rhoquery/rhoquery/PathKind" = some m.cls := hown
  have N0 := Fr.nil n0
  rw [ef_rm_next m a1 p2 p3]
  rcases hn with ⟨rfl, rfl, rfl, rfl, rfl⟩ | ⟨rfl, rfl, rfl, rfl, rfl⟩ | ⟨rfl, rfl, rfl, rfl, rfl⟩ | ⟨rfl, rfl, rfl, rfl, rfl⟩ | ⟨rfl, rfl, rfl, rfl, rfl⟩ | ⟨rfl, rfl, rfl, rfl, rfl⟩ | ⟨rfl, rfl, rfl, rfl, rfl⟩ | ⟨rfl, rfl, rfl, rfl, rfl⟩ | ⟨rfl, rfl, rfl, rfl, rfl⟩ | ⟨rfl, rfl, rfl, rfl, rfl⟩ | ⟨rfl, rfl, rfl, rfl, rfl⟩ | ⟨rfl, rfl, rfl, rfl, rfl⟩ | ⟨rfl, rfl, rfl, rfl, rfl⟩ | ⟨rfl, rfl, rfl, rfl, rfl⟩ | ⟨rfl, rfl, rfl, rfl, rfl⟩
  · refine own_iloadN X0 hx (pc' := 1) rfl (hb hby d_prog_28_method_7_code_0) rfl ?_
    refine own_istoreN X0 hx (Ls' := #[.val (.ref a1), .val (.int (1 : Int32)), .val (.int (1 : Int32)), .val (.int (1 : Int32))]) (pc' := 2) rfl (hb hby d_prog_28_method_7_code_1) rfl ?_
    refine own_iloadN X0 hx (pc' := 3) rfl (hb hby d_prog_28_method_7_code_2) rfl ?_
    refine own_iloadN X0 hx (pc' := 4) rfl (hb hby d_prog_28_method_7_code_3) rfl ?_
    refine own_icmpT X0 hx (pc' := 30) (hb hby d_prog_28_method_7_code_4) (XT.ii_ge_t (by decide)) (by decide) (by decide) ?_
    refine own_iloadN X0 hx (pc' := 31) rfl (hb hby d_prog_28_method_7_code_30) rfl ?_
    refine own_iret X0 hx hlk hret (hb hby d_prog_28_method_7_code_31) (by decide) (by decide) ?_
    rw [e0]
    exact ⟨by first | (simp only [own_nx, ]; done) | (simp only [own_nx, ]; rfl), N0, rfl⟩
  · refine own_iloadN X0 hx (pc' := 1) rfl (hb hby d_prog_28_method_7_code_0) rfl ?_
    refine own_istoreN X0 hx (Ls' := #[.val (.ref a1), .val (.int (2 : Int32)), .val (.int (1 : Int32)), .val (.int (1 : Int32))]) (pc' := 2) rfl (hb hby d_prog_28_method_7_code_1) rfl ?_
    refine own_iloadN X0 hx (pc' := 3) rfl (hb hby d_prog_28_method_7_code_2) rfl ?_
    refine own_iloadN X0 hx (pc' := 4) rfl (hb hby d_prog_28_method_7_code_3) rfl ?_
    refine own_icmpF X0 hx (pc' := 7) rfl (hb hby d_prog_28_method_7_code_4) (XT.ii_ge_f (by decide)) ?_
    refine own_aloadN X0 hx (pc' := 8) rfl (hb hby d_prog_28_method_7_code_7) rfl rfl ?_
    refine own_iloadN X0 hx (pc' := 9) rfl (hb hby d_prog_28_method_7_code_8) rfl ?_
    refine own_ldI X0 hx hZ e0 I0 (k := 1) (by decide) (by decide) (by decide) (v := (.int t1)) hf.2.1 (pc' := 10) rfl (hb hby d_prog_28_method_7_code_9) ?_
    refine own_callS X0 hx hZ (y := (⟨"com/example/rhoquery/rhoquery/InstanceGraph", "isForward", "(I)Z"⟩ : MethodName)) hown (hw _ (List.mem_of_getElem? (i := 15) rfl)) (hw _ (List.mem_of_getElem? (i := 16) rfl)) (hw _ (List.mem_of_getElem? (i := 17) rfl)) (hw _ (List.mem_of_getElem? (i := 18) rfl))  (by decide) (rm_fwd l Z a0 hw [] t1 h0 n0 Z0) (by decide) (W := 0) (by decide) (by decide) (by decide) e0 (by rw [hml]; rfl) (argsL := [(.int t1)]) (rest := []) rfl (lenOf pd__I_Z rfl) rfl (Nat.le_of_eq rfl) (pc' := 13) rfl (hb hby d_prog_28_method_7_code_10) ?_
    rintro _ T1 L1 X1 ⟨rfl, N1, e1⟩
    have M1 := Fr.app N0 N1
    show own_Goes p e below T1 (mkF m 13 #[.val (.ref a1), .val (.int (2 : Int32)), .val (.int (1 : Int32)), .val (.int (1 : Int32))] [(.int (own_fwd t1))]) _
    refine own_aloadN X1 hx (pc' := 14) rfl (hb hby d_prog_28_method_7_code_13) rfl rfl ?_
    refine own_iloadN X1 hx (pc' := 15) rfl (hb hby d_prog_28_method_7_code_14) rfl ?_
    refine own_iconst X1 hx (v := (1 : Int32)) (pc' := 16) rfl (hb hby d_prog_28_method_7_code_15) rfl ?_
    refine own_isub X1 hx (v := (0 : Int32)) (pc' := 17) rfl (hb hby d_prog_28_method_7_code_16) (by decide) ?_
    refine own_ldI X1 hx hZ e1 I0 (k := 0) (by decide) (by decide) (by decide) (v := (.int t0)) hf.1 (pc' := 18) rfl (hb hby d_prog_28_method_7_code_17) ?_
    refine own_callS X1 hx hZ (y := (⟨"com/example/rhoquery/rhoquery/InstanceGraph", "isForward", "(I)Z"⟩ : MethodName)) hown (hw _ (List.mem_of_getElem? (i := 15) rfl)) (hw _ (List.mem_of_getElem? (i := 16) rfl)) (hw _ (List.mem_of_getElem? (i := 17) rfl)) (hw _ (List.mem_of_getElem? (i := 18) rfl))  (by decide) (rm_fwd l Z a0 hw [] t0 h0 n0 Z0) (by decide) (W := 1) (by decide) (by decide) (by decide) e1 (by rw [hml]; rfl) (argsL := [(.int t0)]) (rest := [(.int (own_fwd t1))]) rfl (lenOf pd__I_Z rfl) rfl (Nat.le_of_eq rfl) (pc' := 21) rfl (hb hby d_prog_28_method_7_code_18) ?_
    rintro _ T2 L2 X2 ⟨rfl, N2, e2⟩
    have M2 := Fr.app M1 N2
    show own_Goes p e below T2 (mkF m 21 #[.val (.ref a1), .val (.int (2 : Int32)), .val (.int (1 : Int32)), .val (.int (1 : Int32))] [(.int (own_fwd t0)), (.int (own_fwd t1))]) _
    by_cases c21_3 : (own_fwd t1) = (own_fwd t0)
    · refine own_icmpF X2 hx (pc' := 24) rfl (hb hby d_prog_28_method_7_code_21) (XT.ii_ne_f c21_3) ?_
      refine own_iinc X2 hx (v := (2 : Int32)) (Ls' := #[.val (.ref a1), .val (.int (2 : Int32)), .val (.int (1 : Int32)), .val (.int (2 : Int32))]) (pc' := 27) rfl (hb hby d_prog_28_method_7_code_24) rfl (by decide) rfl ?_
      refine own_goto X2 hx (pc' := 2) (hb hby d_prog_28_method_7_code_27) (by decide) (by decide) ?_
      refine own_iloadN X2 hx (pc' := 3) rfl (hb hby d_prog_28_method_7_code_2) rfl ?_
      refine own_iloadN X2 hx (pc' := 4) rfl (hb hby d_prog_28_method_7_code_3) rfl ?_
      refine own_icmpT X2 hx (pc' := 30) (hb hby d_prog_28_method_7_code_4) (XT.ii_ge_t (by decide)) (by decide) (by decide) ?_
      refine own_iloadN X2 hx (pc' := 31) rfl (hb hby d_prog_28_method_7_code_30) rfl ?_
      refine own_iret X2 hx hlk hret (hb hby d_prog_28_method_7_code_31) (by decide) (by decide) ?_
      rw [e2]
      exact ⟨by first | (simp only [own_nx, if_pos c21_3]; done) | (simp only [own_nx, if_pos c21_3]; rfl), M2, rfl⟩
    · refine own_icmpT X2 hx (pc' := 30) (hb hby d_prog_28_method_7_code_21) (XT.ii_ne_t c21_3) (by decide) (by decide) ?_
      refine own_iloadN X2 hx (pc' := 31) rfl (hb hby d_prog_28_method_7_code_30) rfl ?_
      refine own_iret X2 hx hlk hret (hb hby d_prog_28_method_7_code_31) (by decide) (by decide) ?_
      rw [e2]
      exact ⟨by first | (simp only [own_nx, if_neg c21_3]; done) | (simp only [own_nx, if_neg c21_3]; rfl), M2, rfl⟩
  · refine own_iloadN X0 hx (pc' := 1) rfl (hb hby d_prog_28_method_7_code_0) rfl ?_
    refine own_istoreN X0 hx (Ls' := #[.val (.ref a1), .val (.int (2 : Int32)), .val (.int (2 : Int32)), .val (.int (2 : Int32))]) (pc' := 2) rfl (hb hby d_prog_28_method_7_code_1) rfl ?_
    refine own_iloadN X0 hx (pc' := 3) rfl (hb hby d_prog_28_method_7_code_2) rfl ?_
    refine own_iloadN X0 hx (pc' := 4) rfl (hb hby d_prog_28_method_7_code_3) rfl ?_
    refine own_icmpT X0 hx (pc' := 30) (hb hby d_prog_28_method_7_code_4) (XT.ii_ge_t (by decide)) (by decide) (by decide) ?_
    refine own_iloadN X0 hx (pc' := 31) rfl (hb hby d_prog_28_method_7_code_30) rfl ?_
    refine own_iret X0 hx hlk hret (hb hby d_prog_28_method_7_code_31) (by decide) (by decide) ?_
    rw [e0]
    exact ⟨by first | (simp only [own_nx, ]; done) | (simp only [own_nx, ]; rfl), N0, rfl⟩
  · refine own_iloadN X0 hx (pc' := 1) rfl (hb hby d_prog_28_method_7_code_0) rfl ?_
    refine own_istoreN X0 hx (Ls' := #[.val (.ref a1), .val (.int (3 : Int32)), .val (.int (1 : Int32)), .val (.int (1 : Int32))]) (pc' := 2) rfl (hb hby d_prog_28_method_7_code_1) rfl ?_
    refine own_iloadN X0 hx (pc' := 3) rfl (hb hby d_prog_28_method_7_code_2) rfl ?_
    refine own_iloadN X0 hx (pc' := 4) rfl (hb hby d_prog_28_method_7_code_3) rfl ?_
    refine own_icmpF X0 hx (pc' := 7) rfl (hb hby d_prog_28_method_7_code_4) (XT.ii_ge_f (by decide)) ?_
    refine own_aloadN X0 hx (pc' := 8) rfl (hb hby d_prog_28_method_7_code_7) rfl rfl ?_
    refine own_iloadN X0 hx (pc' := 9) rfl (hb hby d_prog_28_method_7_code_8) rfl ?_
    refine own_ldI X0 hx hZ e0 I0 (k := 1) (by decide) (by decide) (by decide) (v := (.int t1)) hf.2.1 (pc' := 10) rfl (hb hby d_prog_28_method_7_code_9) ?_
    refine own_callS X0 hx hZ (y := (⟨"com/example/rhoquery/rhoquery/InstanceGraph", "isForward", "(I)Z"⟩ : MethodName)) hown (hw _ (List.mem_of_getElem? (i := 15) rfl)) (hw _ (List.mem_of_getElem? (i := 16) rfl)) (hw _ (List.mem_of_getElem? (i := 17) rfl)) (hw _ (List.mem_of_getElem? (i := 18) rfl))  (by decide) (rm_fwd l Z a0 hw [] t1 h0 n0 Z0) (by decide) (W := 0) (by decide) (by decide) (by decide) e0 (by rw [hml]; rfl) (argsL := [(.int t1)]) (rest := []) rfl (lenOf pd__I_Z rfl) rfl (Nat.le_of_eq rfl) (pc' := 13) rfl (hb hby d_prog_28_method_7_code_10) ?_
    rintro _ T4 L4 X4 ⟨rfl, N4, e4⟩
    have M4 := Fr.app N0 N4
    show own_Goes p e below T4 (mkF m 13 #[.val (.ref a1), .val (.int (3 : Int32)), .val (.int (1 : Int32)), .val (.int (1 : Int32))] [(.int (own_fwd t1))]) _
    refine own_aloadN X4 hx (pc' := 14) rfl (hb hby d_prog_28_method_7_code_13) rfl rfl ?_
    refine own_iloadN X4 hx (pc' := 15) rfl (hb hby d_prog_28_method_7_code_14) rfl ?_
    refine own_iconst X4 hx (v := (1 : Int32)) (pc' := 16) rfl (hb hby d_prog_28_method_7_code_15) rfl ?_
    refine own_isub X4 hx (v := (0 : Int32)) (pc' := 17) rfl (hb hby d_prog_28_method_7_code_16) (by decide) ?_
    refine own_ldI X4 hx hZ e4 I0 (k := 0) (by decide) (by decide) (by decide) (v := (.int t0)) hf.1 (pc' := 18) rfl (hb hby d_prog_28_method_7_code_17) ?_
    refine own_callS X4 hx hZ (y := (⟨"com/example/rhoquery/rhoquery/InstanceGraph", "isForward", "(I)Z"⟩ : MethodName)) hown (hw _ (List.mem_of_getElem? (i := 15) rfl)) (hw _ (List.mem_of_getElem? (i := 16) rfl)) (hw _ (List.mem_of_getElem? (i := 17) rfl)) (hw _ (List.mem_of_getElem? (i := 18) rfl))  (by decide) (rm_fwd l Z a0 hw [] t0 h0 n0 Z0) (by decide) (W := 1) (by decide) (by decide) (by decide) e4 (by rw [hml]; rfl) (argsL := [(.int t0)]) (rest := [(.int (own_fwd t1))]) rfl (lenOf pd__I_Z rfl) rfl (Nat.le_of_eq rfl) (pc' := 21) rfl (hb hby d_prog_28_method_7_code_18) ?_
    rintro _ T5 L5 X5 ⟨rfl, N5, e5⟩
    have M5 := Fr.app M4 N5
    show own_Goes p e below T5 (mkF m 21 #[.val (.ref a1), .val (.int (3 : Int32)), .val (.int (1 : Int32)), .val (.int (1 : Int32))] [(.int (own_fwd t0)), (.int (own_fwd t1))]) _
    by_cases c21_6 : (own_fwd t1) = (own_fwd t0)
    · refine own_icmpF X5 hx (pc' := 24) rfl (hb hby d_prog_28_method_7_code_21) (XT.ii_ne_f c21_6) ?_
      refine own_iinc X5 hx (v := (2 : Int32)) (Ls' := #[.val (.ref a1), .val (.int (3 : Int32)), .val (.int (1 : Int32)), .val (.int (2 : Int32))]) (pc' := 27) rfl (hb hby d_prog_28_method_7_code_24) rfl (by decide) rfl ?_
      refine own_goto X5 hx (pc' := 2) (hb hby d_prog_28_method_7_code_27) (by decide) (by decide) ?_
      refine own_iloadN X5 hx (pc' := 3) rfl (hb hby d_prog_28_method_7_code_2) rfl ?_
      refine own_iloadN X5 hx (pc' := 4) rfl (hb hby d_prog_28_method_7_code_3) rfl ?_
      refine own_icmpF X5 hx (pc' := 7) rfl (hb hby d_prog_28_method_7_code_4) (XT.ii_ge_f (by decide)) ?_
      refine own_aloadN X5 hx (pc' := 8) rfl (hb hby d_prog_28_method_7_code_7) rfl rfl ?_
      refine own_iloadN X5 hx (pc' := 9) rfl (hb hby d_prog_28_method_7_code_8) rfl ?_
      refine own_ldI X5 hx hZ e5 I0 (k := 2) (by decide) (by decide) (by decide) (v := (.int t2)) hf.2.2.1 (pc' := 10) rfl (hb hby d_prog_28_method_7_code_9) ?_
      refine own_callS X5 hx hZ (y := (⟨"com/example/rhoquery/rhoquery/InstanceGraph", "isForward", "(I)Z"⟩ : MethodName)) hown (hw _ (List.mem_of_getElem? (i := 15) rfl)) (hw _ (List.mem_of_getElem? (i := 16) rfl)) (hw _ (List.mem_of_getElem? (i := 17) rfl)) (hw _ (List.mem_of_getElem? (i := 18) rfl))  (by decide) (rm_fwd l Z a0 hw [] t2 h0 n0 Z0) (by decide) (W := 0) (by decide) (by decide) (by decide) e5 (by rw [hml]; rfl) (argsL := [(.int t2)]) (rest := []) rfl (lenOf pd__I_Z rfl) rfl (Nat.le_of_eq rfl) (pc' := 13) rfl (hb hby d_prog_28_method_7_code_10) ?_
      rintro _ T7 L7 X7 ⟨rfl, N7, e7⟩
      have M7 := Fr.app M5 N7
      show own_Goes p e below T7 (mkF m 13 #[.val (.ref a1), .val (.int (3 : Int32)), .val (.int (1 : Int32)), .val (.int (2 : Int32))] [(.int (own_fwd t2))]) _
      refine own_aloadN X7 hx (pc' := 14) rfl (hb hby d_prog_28_method_7_code_13) rfl rfl ?_
      refine own_iloadN X7 hx (pc' := 15) rfl (hb hby d_prog_28_method_7_code_14) rfl ?_
      refine own_iconst X7 hx (v := (1 : Int32)) (pc' := 16) rfl (hb hby d_prog_28_method_7_code_15) rfl ?_
      refine own_isub X7 hx (v := (1 : Int32)) (pc' := 17) rfl (hb hby d_prog_28_method_7_code_16) (by decide) ?_
      refine own_ldI X7 hx hZ e7 I0 (k := 1) (by decide) (by decide) (by decide) (v := (.int t1)) hf.2.1 (pc' := 18) rfl (hb hby d_prog_28_method_7_code_17) ?_
      refine own_callS X7 hx hZ (y := (⟨"com/example/rhoquery/rhoquery/InstanceGraph", "isForward", "(I)Z"⟩ : MethodName)) hown (hw _ (List.mem_of_getElem? (i := 15) rfl)) (hw _ (List.mem_of_getElem? (i := 16) rfl)) (hw _ (List.mem_of_getElem? (i := 17) rfl)) (hw _ (List.mem_of_getElem? (i := 18) rfl))  (by decide) (rm_fwd l Z a0 hw [] t1 h0 n0 Z0) (by decide) (W := 1) (by decide) (by decide) (by decide) e7 (by rw [hml]; rfl) (argsL := [(.int t1)]) (rest := [(.int (own_fwd t2))]) rfl (lenOf pd__I_Z rfl) rfl (Nat.le_of_eq rfl) (pc' := 21) rfl (hb hby d_prog_28_method_7_code_18) ?_
      rintro _ T8 L8 X8 ⟨rfl, N8, e8⟩
      have M8 := Fr.app M7 N8
      show own_Goes p e below T8 (mkF m 21 #[.val (.ref a1), .val (.int (3 : Int32)), .val (.int (1 : Int32)), .val (.int (2 : Int32))] [(.int (own_fwd t1)), (.int (own_fwd t2))]) _
      by_cases c21_9 : (own_fwd t2) = (own_fwd t1)
      · refine own_icmpF X8 hx (pc' := 24) rfl (hb hby d_prog_28_method_7_code_21) (XT.ii_ne_f c21_9) ?_
        refine own_iinc X8 hx (v := (3 : Int32)) (Ls' := #[.val (.ref a1), .val (.int (3 : Int32)), .val (.int (1 : Int32)), .val (.int (3 : Int32))]) (pc' := 27) rfl (hb hby d_prog_28_method_7_code_24) rfl (by decide) rfl ?_
        refine own_goto X8 hx (pc' := 2) (hb hby d_prog_28_method_7_code_27) (by decide) (by decide) ?_
        refine own_iloadN X8 hx (pc' := 3) rfl (hb hby d_prog_28_method_7_code_2) rfl ?_
        refine own_iloadN X8 hx (pc' := 4) rfl (hb hby d_prog_28_method_7_code_3) rfl ?_
        refine own_icmpT X8 hx (pc' := 30) (hb hby d_prog_28_method_7_code_4) (XT.ii_ge_t (by decide)) (by decide) (by decide) ?_
        refine own_iloadN X8 hx (pc' := 31) rfl (hb hby d_prog_28_method_7_code_30) rfl ?_
        refine own_iret X8 hx hlk hret (hb hby d_prog_28_method_7_code_31) (by decide) (by decide) ?_
        rw [e8]
        exact ⟨by first | (simp only [own_nx, if_pos c21_6, if_pos c21_9]; done) | (simp only [own_nx, if_pos c21_6, if_pos c21_9]; rfl), M8, rfl⟩
      · refine own_icmpT X8 hx (pc' := 30) (hb hby d_prog_28_method_7_code_21) (XT.ii_ne_t c21_9) (by decide) (by decide) ?_
        refine own_iloadN X8 hx (pc' := 31) rfl (hb hby d_prog_28_method_7_code_30) rfl ?_
        refine own_iret X8 hx hlk hret (hb hby d_prog_28_method_7_code_31) (by decide) (by decide) ?_
        rw [e8]
        exact ⟨by first | (simp only [own_nx, if_pos c21_6, if_neg c21_9]; done) | (simp only [own_nx, if_pos c21_6, if_neg c21_9]; rfl), M8, rfl⟩
    · refine own_icmpT X5 hx (pc' := 30) (hb hby d_prog_28_method_7_code_21) (XT.ii_ne_t c21_6) (by decide) (by decide) ?_
      refine own_iloadN X5 hx (pc' := 31) rfl (hb hby d_prog_28_method_7_code_30) rfl ?_
      refine own_iret X5 hx hlk hret (hb hby d_prog_28_method_7_code_31) (by decide) (by decide) ?_
      rw [e5]
      exact ⟨by first | (simp only [own_nx, if_neg c21_6]; done) | (simp only [own_nx, if_neg c21_6]; rfl), M5, rfl⟩
  · refine own_iloadN X0 hx (pc' := 1) rfl (hb hby d_prog_28_method_7_code_0) rfl ?_
    refine own_istoreN X0 hx (Ls' := #[.val (.ref a1), .val (.int (3 : Int32)), .val (.int (2 : Int32)), .val (.int (2 : Int32))]) (pc' := 2) rfl (hb hby d_prog_28_method_7_code_1) rfl ?_
    refine own_iloadN X0 hx (pc' := 3) rfl (hb hby d_prog_28_method_7_code_2) rfl ?_
    refine own_iloadN X0 hx (pc' := 4) rfl (hb hby d_prog_28_method_7_code_3) rfl ?_
    refine own_icmpF X0 hx (pc' := 7) rfl (hb hby d_prog_28_method_7_code_4) (XT.ii_ge_f (by decide)) ?_
    refine own_aloadN X0 hx (pc' := 8) rfl (hb hby d_prog_28_method_7_code_7) rfl rfl ?_
    refine own_iloadN X0 hx (pc' := 9) rfl (hb hby d_prog_28_method_7_code_8) rfl ?_
    refine own_ldI X0 hx hZ e0 I0 (k := 2) (by decide) (by decide) (by decide) (v := (.int t2)) hf.2.2.1 (pc' := 10) rfl (hb hby d_prog_28_method_7_code_9) ?_
    refine own_callS X0 hx hZ (y := (⟨"com/example/rhoquery/rhoquery/InstanceGraph", "isForward", "(I)Z"⟩ : MethodName)) hown (hw _ (List.mem_of_getElem? (i := 15) rfl)) (hw _ (List.mem_of_getElem? (i := 16) rfl)) (hw _ (List.mem_of_getElem? (i := 17) rfl)) (hw _ (List.mem_of_getElem? (i := 18) rfl))  (by decide) (rm_fwd l Z a0 hw [] t2 h0 n0 Z0) (by decide) (W := 0) (by decide) (by decide) (by decide) e0 (by rw [hml]; rfl) (argsL := [(.int t2)]) (rest := []) rfl (lenOf pd__I_Z rfl) rfl (Nat.le_of_eq rfl) (pc' := 13) rfl (hb hby d_prog_28_method_7_code_10) ?_
    rintro _ T10 L10 X10 ⟨rfl, N10, e10⟩
    have M10 := Fr.app N0 N10
    show own_Goes p e below T10 (mkF m 13 #[.val (.ref a1), .val (.int (3 : Int32)), .val (.int (2 : Int32)), .val (.int (2 : Int32))] [(.int (own_fwd t2))]) _
    refine own_aloadN X10 hx (pc' := 14) rfl (hb hby d_prog_28_method_7_code_13) rfl rfl ?_
    refine own_iloadN X10 hx (pc' := 15) rfl (hb hby d_prog_28_method_7_code_14) rfl ?_
    refine own_iconst X10 hx (v := (1 : Int32)) (pc' := 16) rfl (hb hby d_prog_28_method_7_code_15) rfl ?_
    refine own_isub X10 hx (v := (1 : Int32)) (pc' := 17) rfl (hb hby d_prog_28_method_7_code_16) (by decide) ?_
    refine own_ldI X10 hx hZ e10 I0 (k := 1) (by decide) (by decide) (by decide) (v := (.int t1)) hf.2.1 (pc' := 18) rfl (hb hby d_prog_28_method_7_code_17) ?_
    refine own_callS X10 hx hZ (y := (⟨"com/example/rhoquery/rhoquery/InstanceGraph", "isForward", "(I)Z"⟩ : MethodName)) hown (hw _ (List.mem_of_getElem? (i := 15) rfl)) (hw _ (List.mem_of_getElem? (i := 16) rfl)) (hw _ (List.mem_of_getElem? (i := 17) rfl)) (hw _ (List.mem_of_getElem? (i := 18) rfl))  (by decide) (rm_fwd l Z a0 hw [] t1 h0 n0 Z0) (by decide) (W := 1) (by decide) (by decide) (by decide) e10 (by rw [hml]; rfl) (argsL := [(.int t1)]) (rest := [(.int (own_fwd t2))]) rfl (lenOf pd__I_Z rfl) rfl (Nat.le_of_eq rfl) (pc' := 21) rfl (hb hby d_prog_28_method_7_code_18) ?_
    rintro _ T11 L11 X11 ⟨rfl, N11, e11⟩
    have M11 := Fr.app M10 N11
    show own_Goes p e below T11 (mkF m 21 #[.val (.ref a1), .val (.int (3 : Int32)), .val (.int (2 : Int32)), .val (.int (2 : Int32))] [(.int (own_fwd t1)), (.int (own_fwd t2))]) _
    by_cases c21_12 : (own_fwd t2) = (own_fwd t1)
    · refine own_icmpF X11 hx (pc' := 24) rfl (hb hby d_prog_28_method_7_code_21) (XT.ii_ne_f c21_12) ?_
      refine own_iinc X11 hx (v := (3 : Int32)) (Ls' := #[.val (.ref a1), .val (.int (3 : Int32)), .val (.int (2 : Int32)), .val (.int (3 : Int32))]) (pc' := 27) rfl (hb hby d_prog_28_method_7_code_24) rfl (by decide) rfl ?_
      refine own_goto X11 hx (pc' := 2) (hb hby d_prog_28_method_7_code_27) (by decide) (by decide) ?_
      refine own_iloadN X11 hx (pc' := 3) rfl (hb hby d_prog_28_method_7_code_2) rfl ?_
      refine own_iloadN X11 hx (pc' := 4) rfl (hb hby d_prog_28_method_7_code_3) rfl ?_
      refine own_icmpT X11 hx (pc' := 30) (hb hby d_prog_28_method_7_code_4) (XT.ii_ge_t (by decide)) (by decide) (by decide) ?_
      refine own_iloadN X11 hx (pc' := 31) rfl (hb hby d_prog_28_method_7_code_30) rfl ?_
      refine own_iret X11 hx hlk hret (hb hby d_prog_28_method_7_code_31) (by decide) (by decide) ?_
      rw [e11]
      exact ⟨by first | (simp only [own_nx, if_pos c21_12]; done) | (simp only [own_nx, if_pos c21_12]; rfl), M11, rfl⟩
    · refine own_icmpT X11 hx (pc' := 30) (hb hby d_prog_28_method_7_code_21) (XT.ii_ne_t c21_12) (by decide) (by decide) ?_
      refine own_iloadN X11 hx (pc' := 31) rfl (hb hby d_prog_28_method_7_code_30) rfl ?_
      refine own_iret X11 hx hlk hret (hb hby d_prog_28_method_7_code_31) (by decide) (by decide) ?_
      rw [e11]
      exact ⟨by first | (simp only [own_nx, if_neg c21_12]; done) | (simp only [own_nx, if_neg c21_12]; rfl), M11, rfl⟩
  · refine own_iloadN X0 hx (pc' := 1) rfl (hb hby d_prog_28_method_7_code_0) rfl ?_
    refine own_istoreN X0 hx (Ls' := #[.val (.ref a1), .val (.int (3 : Int32)), .val (.int (3 : Int32)), .val (.int (3 : Int32))]) (pc' := 2) rfl (hb hby d_prog_28_method_7_code_1) rfl ?_
    refine own_iloadN X0 hx (pc' := 3) rfl (hb hby d_prog_28_method_7_code_2) rfl ?_
    refine own_iloadN X0 hx (pc' := 4) rfl (hb hby d_prog_28_method_7_code_3) rfl ?_
    refine own_icmpT X0 hx (pc' := 30) (hb hby d_prog_28_method_7_code_4) (XT.ii_ge_t (by decide)) (by decide) (by decide) ?_
    refine own_iloadN X0 hx (pc' := 31) rfl (hb hby d_prog_28_method_7_code_30) rfl ?_
    refine own_iret X0 hx hlk hret (hb hby d_prog_28_method_7_code_31) (by decide) (by decide) ?_
    rw [e0]
    exact ⟨by first | (simp only [own_nx, ]; done) | (simp only [own_nx, ]; rfl), N0, rfl⟩
  · refine own_iloadN X0 hx (pc' := 1) rfl (hb hby d_prog_28_method_7_code_0) rfl ?_
    refine own_istoreN X0 hx (Ls' := #[.val (.ref a1), .val (.int (4 : Int32)), .val (.int (1 : Int32)), .val (.int (1 : Int32))]) (pc' := 2) rfl (hb hby d_prog_28_method_7_code_1) rfl ?_
    refine own_iloadN X0 hx (pc' := 3) rfl (hb hby d_prog_28_method_7_code_2) rfl ?_
    refine own_iloadN X0 hx (pc' := 4) rfl (hb hby d_prog_28_method_7_code_3) rfl ?_
    refine own_icmpF X0 hx (pc' := 7) rfl (hb hby d_prog_28_method_7_code_4) (XT.ii_ge_f (by decide)) ?_
    refine own_aloadN X0 hx (pc' := 8) rfl (hb hby d_prog_28_method_7_code_7) rfl rfl ?_
    refine own_iloadN X0 hx (pc' := 9) rfl (hb hby d_prog_28_method_7_code_8) rfl ?_
    refine own_ldI X0 hx hZ e0 I0 (k := 1) (by decide) (by decide) (by decide) (v := (.int t1)) hf.2.1 (pc' := 10) rfl (hb hby d_prog_28_method_7_code_9) ?_
    refine own_callS X0 hx hZ (y := (⟨"com/example/rhoquery/rhoquery/InstanceGraph", "isForward", "(I)Z"⟩ : MethodName)) hown (hw _ (List.mem_of_getElem? (i := 15) rfl)) (hw _ (List.mem_of_getElem? (i := 16) rfl)) (hw _ (List.mem_of_getElem? (i := 17) rfl)) (hw _ (List.mem_of_getElem? (i := 18) rfl))  (by decide) (rm_fwd l Z a0 hw [] t1 h0 n0 Z0) (by decide) (W := 0) (by decide) (by decide) (by decide) e0 (by rw [hml]; rfl) (argsL := [(.int t1)]) (rest := []) rfl (lenOf pd__I_Z rfl) rfl (Nat.le_of_eq rfl) (pc' := 13) rfl (hb hby d_prog_28_method_7_code_10) ?_
    rintro _ T13 L13 X13 ⟨rfl, N13, e13⟩
    have M13 := Fr.app N0 N13
    show own_Goes p e below T13 (mkF m 13 #[.val (.ref a1), .val (.int (4 : Int32)), .val (.int (1 : Int32)), .val (.int (1 : Int32))] [(.int (own_fwd t1))]) _
    refine own_aloadN X13 hx (pc' := 14) rfl (hb hby d_prog_28_method_7_code_13) rfl rfl ?_
    refine own_iloadN X13 hx (pc' := 15) rfl (hb hby d_prog_28_method_7_code_14) rfl ?_
    refine own_iconst X13 hx (v := (1 : Int32)) (pc' := 16) rfl (hb hby d_prog_28_method_7_code_15) rfl ?_
    refine own_isub X13 hx (v := (0 : Int32)) (pc' := 17) rfl (hb hby d_prog_28_method_7_code_16) (by decide) ?_
    refine own_ldI X13 hx hZ e13 I0 (k := 0) (by decide) (by decide) (by decide) (v := (.int t0)) hf.1 (pc' := 18) rfl (hb hby d_prog_28_method_7_code_17) ?_
    refine own_callS X13 hx hZ (y := (⟨"com/example/rhoquery/rhoquery/InstanceGraph", "isForward", "(I)Z"⟩ : MethodName)) hown (hw _ (List.mem_of_getElem? (i := 15) rfl)) (hw _ (List.mem_of_getElem? (i := 16) rfl)) (hw _ (List.mem_of_getElem? (i := 17) rfl)) (hw _ (List.mem_of_getElem? (i := 18) rfl))  (by decide) (rm_fwd l Z a0 hw [] t0 h0 n0 Z0) (by decide) (W := 1) (by decide) (by decide) (by decide) e13 (by rw [hml]; rfl) (argsL := [(.int t0)]) (rest := [(.int (own_fwd t1))]) rfl (lenOf pd__I_Z rfl) rfl (Nat.le_of_eq rfl) (pc' := 21) rfl (hb hby d_prog_28_method_7_code_18) ?_
    rintro _ T14 L14 X14 ⟨rfl, N14, e14⟩
    have M14 := Fr.app M13 N14
    show own_Goes p e below T14 (mkF m 21 #[.val (.ref a1), .val (.int (4 : Int32)), .val (.int (1 : Int32)), .val (.int (1 : Int32))] [(.int (own_fwd t0)), (.int (own_fwd t1))]) _
    by_cases c21_15 : (own_fwd t1) = (own_fwd t0)
    · refine own_icmpF X14 hx (pc' := 24) rfl (hb hby d_prog_28_method_7_code_21) (XT.ii_ne_f c21_15) ?_
      refine own_iinc X14 hx (v := (2 : Int32)) (Ls' := #[.val (.ref a1), .val (.int (4 : Int32)), .val (.int (1 : Int32)), .val (.int (2 : Int32))]) (pc' := 27) rfl (hb hby d_prog_28_method_7_code_24) rfl (by decide) rfl ?_
      refine own_goto X14 hx (pc' := 2) (hb hby d_prog_28_method_7_code_27) (by decide) (by decide) ?_
      refine own_iloadN X14 hx (pc' := 3) rfl (hb hby d_prog_28_method_7_code_2) rfl ?_
      refine own_iloadN X14 hx (pc' := 4) rfl (hb hby d_prog_28_method_7_code_3) rfl ?_
      refine own_icmpF X14 hx (pc' := 7) rfl (hb hby d_prog_28_method_7_code_4) (XT.ii_ge_f (by decide)) ?_
      refine own_aloadN X14 hx (pc' := 8) rfl (hb hby d_prog_28_method_7_code_7) rfl rfl ?_
      refine own_iloadN X14 hx (pc' := 9) rfl (hb hby d_prog_28_method_7_code_8) rfl ?_
      refine own_ldI X14 hx hZ e14 I0 (k := 2) (by decide) (by decide) (by decide) (v := (.int t2)) hf.2.2.1 (pc' := 10) rfl (hb hby d_prog_28_method_7_code_9) ?_
      refine own_callS X14 hx hZ (y := (⟨"com/example/rhoquery/rhoquery/InstanceGraph", "isForward", "(I)Z"⟩ : MethodName)) hown (hw _ (List.mem_of_getElem? (i := 15) rfl)) (hw _ (List.mem_of_getElem? (i := 16) rfl)) (hw _ (List.mem_of_getElem? (i := 17) rfl)) (hw _ (List.mem_of_getElem? (i := 18) rfl))  (by decide) (rm_fwd l Z a0 hw [] t2 h0 n0 Z0) (by decide) (W := 0) (by decide) (by decide) (by decide) e14 (by rw [hml]; rfl) (argsL := [(.int t2)]) (rest := []) rfl (lenOf pd__I_Z rfl) rfl (Nat.le_of_eq rfl) (pc' := 13) rfl (hb hby d_prog_28_method_7_code_10) ?_
      rintro _ T16 L16 X16 ⟨rfl, N16, e16⟩
      have M16 := Fr.app M14 N16
      show own_Goes p e below T16 (mkF m 13 #[.val (.ref a1), .val (.int (4 : Int32)), .val (.int (1 : Int32)), .val (.int (2 : Int32))] [(.int (own_fwd t2))]) _
      refine own_aloadN X16 hx (pc' := 14) rfl (hb hby d_prog_28_method_7_code_13) rfl rfl ?_
      refine own_iloadN X16 hx (pc' := 15) rfl (hb hby d_prog_28_method_7_code_14) rfl ?_
      refine own_iconst X16 hx (v := (1 : Int32)) (pc' := 16) rfl (hb hby d_prog_28_method_7_code_15) rfl ?_
      refine own_isub X16 hx (v := (1 : Int32)) (pc' := 17) rfl (hb hby d_prog_28_method_7_code_16) (by decide) ?_
      refine own_ldI X16 hx hZ e16 I0 (k := 1) (by decide) (by decide) (by decide) (v := (.int t1)) hf.2.1 (pc' := 18) rfl (hb hby d_prog_28_method_7_code_17) ?_
      refine own_callS X16 hx hZ (y := (⟨"com/example/rhoquery/rhoquery/InstanceGraph", "isForward", "(I)Z"⟩ : MethodName)) hown (hw _ (List.mem_of_getElem? (i := 15) rfl)) (hw _ (List.mem_of_getElem? (i := 16) rfl)) (hw _ (List.mem_of_getElem? (i := 17) rfl)) (hw _ (List.mem_of_getElem? (i := 18) rfl))  (by decide) (rm_fwd l Z a0 hw [] t1 h0 n0 Z0) (by decide) (W := 1) (by decide) (by decide) (by decide) e16 (by rw [hml]; rfl) (argsL := [(.int t1)]) (rest := [(.int (own_fwd t2))]) rfl (lenOf pd__I_Z rfl) rfl (Nat.le_of_eq rfl) (pc' := 21) rfl (hb hby d_prog_28_method_7_code_18) ?_
      rintro _ T17 L17 X17 ⟨rfl, N17, e17⟩
      have M17 := Fr.app M16 N17
      show own_Goes p e below T17 (mkF m 21 #[.val (.ref a1), .val (.int (4 : Int32)), .val (.int (1 : Int32)), .val (.int (2 : Int32))] [(.int (own_fwd t1)), (.int (own_fwd t2))]) _
      by_cases c21_18 : (own_fwd t2) = (own_fwd t1)
      · refine own_icmpF X17 hx (pc' := 24) rfl (hb hby d_prog_28_method_7_code_21) (XT.ii_ne_f c21_18) ?_
        refine own_iinc X17 hx (v := (3 : Int32)) (Ls' := #[.val (.ref a1), .val (.int (4 : Int32)), .val (.int (1 : Int32)), .val (.int (3 : Int32))]) (pc' := 27) rfl (hb hby d_prog_28_method_7_code_24) rfl (by decide) rfl ?_
        refine own_goto X17 hx (pc' := 2) (hb hby d_prog_28_method_7_code_27) (by decide) (by decide) ?_
        refine own_iloadN X17 hx (pc' := 3) rfl (hb hby d_prog_28_method_7_code_2) rfl ?_
        refine own_iloadN X17 hx (pc' := 4) rfl (hb hby d_prog_28_method_7_code_3) rfl ?_
        refine own_icmpF X17 hx (pc' := 7) rfl (hb hby d_prog_28_method_7_code_4) (XT.ii_ge_f (by decide)) ?_
        refine own_aloadN X17 hx (pc' := 8) rfl (hb hby d_prog_28_method_7_code_7) rfl rfl ?_
        refine own_iloadN X17 hx (pc' := 9) rfl (hb hby d_prog_28_method_7_code_8) rfl ?_
        refine own_ldI X17 hx hZ e17 I0 (k := 3) (by decide) (by decide) (by decide) (v := (.int t3)) hf.2.2.2.1 (pc' := 10) rfl (hb hby d_prog_28_method_7_code_9) ?_
        refine own_callS X17 hx hZ (y := (⟨"com/example/rhoquery/rhoquery/InstanceGraph", "isForward", "(I)Z"⟩ : MethodName)) hown (hw _ (List.mem_of_getElem? (i := 15) rfl)) (hw _ (List.mem_of_getElem? (i := 16) rfl)) (hw _ (List.mem_of_getElem? (i := 17) rfl)) (hw _ (List.mem_of_getElem? (i := 18) rfl))  (by decide) (rm_fwd l Z a0 hw [] t3 h0 n0 Z0) (by decide) (W := 0) (by decide) (by decide) (by decide) e17 (by rw [hml]; rfl) (argsL := [(.int t3)]) (rest := []) rfl (lenOf pd__I_Z rfl) rfl (Nat.le_of_eq rfl) (pc' := 13) rfl (hb hby d_prog_28_method_7_code_10) ?_
        rintro _ T19 L19 X19 ⟨rfl, N19, e19⟩
        have M19 := Fr.app M17 N19
        show own_Goes p e below T19 (mkF m 13 #[.val (.ref a1), .val (.int (4 : Int32)), .val (.int (1 : Int32)), .val (.int (3 : Int32))] [(.int (own_fwd t3))]) _
        refine own_aloadN X19 hx (pc' := 14) rfl (hb hby d_prog_28_method_7_code_13) rfl rfl ?_
        refine own_iloadN X19 hx (pc' := 15) rfl (hb hby d_prog_28_method_7_code_14) rfl ?_
        refine own_iconst X19 hx (v := (1 : Int32)) (pc' := 16) rfl (hb hby d_prog_28_method_7_code_15) rfl ?_
        refine own_isub X19 hx (v := (2 : Int32)) (pc' := 17) rfl (hb hby d_prog_28_method_7_code_16) (by decide) ?_
        refine own_ldI X19 hx hZ e19 I0 (k := 2) (by decide) (by decide) (by decide) (v := (.int t2)) hf.2.2.1 (pc' := 18) rfl (hb hby d_prog_28_method_7_code_17) ?_
        refine own_callS X19 hx hZ (y := (⟨"com/example/rhoquery/rhoquery/InstanceGraph", "isForward", "(I)Z"⟩ : MethodName)) hown (hw _ (List.mem_of_getElem? (i := 15) rfl)) (hw _ (List.mem_of_getElem? (i := 16) rfl)) (hw _ (List.mem_of_getElem? (i := 17) rfl)) (hw _ (List.mem_of_getElem? (i := 18) rfl))  (by decide) (rm_fwd l Z a0 hw [] t2 h0 n0 Z0) (by decide) (W := 1) (by decide) (by decide) (by decide) e19 (by rw [hml]; rfl) (argsL := [(.int t2)]) (rest := [(.int (own_fwd t3))]) rfl (lenOf pd__I_Z rfl) rfl (Nat.le_of_eq rfl) (pc' := 21) rfl (hb hby d_prog_28_method_7_code_18) ?_
        rintro _ T20 L20 X20 ⟨rfl, N20, e20⟩
        have M20 := Fr.app M19 N20
        show own_Goes p e below T20 (mkF m 21 #[.val (.ref a1), .val (.int (4 : Int32)), .val (.int (1 : Int32)), .val (.int (3 : Int32))] [(.int (own_fwd t2)), (.int (own_fwd t3))]) _
        by_cases c21_21 : (own_fwd t3) = (own_fwd t2)
        · refine own_icmpF X20 hx (pc' := 24) rfl (hb hby d_prog_28_method_7_code_21) (XT.ii_ne_f c21_21) ?_
          refine own_iinc X20 hx (v := (4 : Int32)) (Ls' := #[.val (.ref a1), .val (.int (4 : Int32)), .val (.int (1 : Int32)), .val (.int (4 : Int32))]) (pc' := 27) rfl (hb hby d_prog_28_method_7_code_24) rfl (by decide) rfl ?_
          refine own_goto X20 hx (pc' := 2) (hb hby d_prog_28_method_7_code_27) (by decide) (by decide) ?_
          refine own_iloadN X20 hx (pc' := 3) rfl (hb hby d_prog_28_method_7_code_2) rfl ?_
          refine own_iloadN X20 hx (pc' := 4) rfl (hb hby d_prog_28_method_7_code_3) rfl ?_
          refine own_icmpT X20 hx (pc' := 30) (hb hby d_prog_28_method_7_code_4) (XT.ii_ge_t (by decide)) (by decide) (by decide) ?_
          refine own_iloadN X20 hx (pc' := 31) rfl (hb hby d_prog_28_method_7_code_30) rfl ?_
          refine own_iret X20 hx hlk hret (hb hby d_prog_28_method_7_code_31) (by decide) (by decide) ?_
          rw [e20]
          exact ⟨by first | (simp only [own_nx, if_pos c21_15, if_pos c21_18, if_pos c21_21]; done) | (simp only [own_nx, if_pos c21_15, if_pos c21_18, if_pos c21_21]; rfl), M20, rfl⟩
        · refine own_icmpT X20 hx (pc' := 30) (hb hby d_prog_28_method_7_code_21) (XT.ii_ne_t c21_21) (by decide) (by decide) ?_
          refine own_iloadN X20 hx (pc' := 31) rfl (hb hby d_prog_28_method_7_code_30) rfl ?_
          refine own_iret X20 hx hlk hret (hb hby d_prog_28_method_7_code_31) (by decide) (by decide) ?_
          rw [e20]
          exact ⟨by first | (simp only [own_nx, if_pos c21_15, if_pos c21_18, if_neg c21_21]; done) | (simp only [own_nx, if_pos c21_15, if_pos c21_18, if_neg c21_21]; rfl), M20, rfl⟩
      · refine own_icmpT X17 hx (pc' := 30) (hb hby d_prog_28_method_7_code_21) (XT.ii_ne_t c21_18) (by decide) (by decide) ?_
        refine own_iloadN X17 hx (pc' := 31) rfl (hb hby d_prog_28_method_7_code_30) rfl ?_
        refine own_iret X17 hx hlk hret (hb hby d_prog_28_method_7_code_31) (by decide) (by decide) ?_
        rw [e17]
        exact ⟨by first | (simp only [own_nx, if_pos c21_15, if_neg c21_18]; done) | (simp only [own_nx, if_pos c21_15, if_neg c21_18]; rfl), M17, rfl⟩
    · refine own_icmpT X14 hx (pc' := 30) (hb hby d_prog_28_method_7_code_21) (XT.ii_ne_t c21_15) (by decide) (by decide) ?_
      refine own_iloadN X14 hx (pc' := 31) rfl (hb hby d_prog_28_method_7_code_30) rfl ?_
      refine own_iret X14 hx hlk hret (hb hby d_prog_28_method_7_code_31) (by decide) (by decide) ?_
      rw [e14]
      exact ⟨by first | (simp only [own_nx, if_neg c21_15]; done) | (simp only [own_nx, if_neg c21_15]; rfl), M14, rfl⟩
  · refine own_iloadN X0 hx (pc' := 1) rfl (hb hby d_prog_28_method_7_code_0) rfl ?_
    refine own_istoreN X0 hx (Ls' := #[.val (.ref a1), .val (.int (4 : Int32)), .val (.int (2 : Int32)), .val (.int (2 : Int32))]) (pc' := 2) rfl (hb hby d_prog_28_method_7_code_1) rfl ?_
    refine own_iloadN X0 hx (pc' := 3) rfl (hb hby d_prog_28_method_7_code_2) rfl ?_
    refine own_iloadN X0 hx (pc' := 4) rfl (hb hby d_prog_28_method_7_code_3) rfl ?_
    refine own_icmpF X0 hx (pc' := 7) rfl (hb hby d_prog_28_method_7_code_4) (XT.ii_ge_f (by decide)) ?_
    refine own_aloadN X0 hx (pc' := 8) rfl (hb hby d_prog_28_method_7_code_7) rfl rfl ?_
    refine own_iloadN X0 hx (pc' := 9) rfl (hb hby d_prog_28_method_7_code_8) rfl ?_
    refine own_ldI X0 hx hZ e0 I0 (k := 2) (by decide) (by decide) (by decide) (v := (.int t2)) hf.2.2.1 (pc' := 10) rfl (hb hby d_prog_28_method_7_code_9) ?_
    refine own_callS X0 hx hZ (y := (⟨"com/example/rhoquery/rhoquery/InstanceGraph", "isForward", "(I)Z"⟩ : MethodName)) hown (hw _ (List.mem_of_getElem? (i := 15) rfl)) (hw _ (List.mem_of_getElem? (i := 16) rfl)) (hw _ (List.mem_of_getElem? (i := 17) rfl)) (hw _ (List.mem_of_getElem? (i := 18) rfl))  (by decide) (rm_fwd l Z a0 hw [] t2 h0 n0 Z0) (by decide) (W := 0) (by decide) (by decide) (by decide) e0 (by rw [hml]; rfl) (argsL := [(.int t2)]) (rest := []) rfl (lenOf pd__I_Z rfl) rfl (Nat.le_of_eq rfl) (pc' := 13) rfl (hb hby d_prog_28_method_7_code_10) ?_
    rintro _ T22 L22 X22 ⟨rfl, N22, e22⟩
    have M22 := Fr.app N0 N22
    show own_Goes p e below T22 (mkF m 13 #[.val (.ref a1), .val (.int (4 : Int32)), .val (.int (2 : Int32)), .val (.int (2 : Int32))] [(.int (own_fwd t2))]) _
    refine own_aloadN X22 hx (pc' := 14) rfl (hb hby d_prog_28_method_7_code_13) rfl rfl ?_
    refine own_iloadN X22 hx (pc' := 15) rfl (hb hby d_prog_28_method_7_code_14) rfl ?_
    refine own_iconst X22 hx (v := (1 : Int32)) (pc' := 16) rfl (hb hby d_prog_28_method_7_code_15) rfl ?_
    refine own_isub X22 hx (v := (1 : Int32)) (pc' := 17) rfl (hb hby d_prog_28_method_7_code_16) (by decide) ?_
    refine own_ldI X22 hx hZ e22 I0 (k := 1) (by decide) (by decide) (by decide) (v := (.int t1)) hf.2.1 (pc' := 18) rfl (hb hby d_prog_28_method_7_code_17) ?_
    refine own_callS X22 hx hZ (y := (⟨"com/example/rhoquery/rhoquery/InstanceGraph", "isForward", "(I)Z"⟩ : MethodName)) hown (hw _ (List.mem_of_getElem? (i := 15) rfl)) (hw _ (List.mem_of_getElem? (i := 16) rfl)) (hw _ (List.mem_of_getElem? (i := 17) rfl)) (hw _ (List.mem_of_getElem? (i := 18) rfl))  (by decide) (rm_fwd l Z a0 hw [] t1 h0 n0 Z0) (by decide) (W := 1) (by decide) (by decide) (by decide) e22 (by rw [hml]; rfl) (argsL := [(.int t1)]) (rest := [(.int (own_fwd t2))]) rfl (lenOf pd__I_Z rfl) rfl (Nat.le_of_eq rfl) (pc' := 21) rfl (hb hby d_prog_28_method_7_code_18) ?_
    rintro _ T23 L23 X23 ⟨rfl, N23, e23⟩
    have M23 := Fr.app M22 N23
    show own_Goes p e below T23 (mkF m 21 #[.val (.ref a1), .val (.int (4 : Int32)), .val (.int (2 : Int32)), .val (.int (2 : Int32))] [(.int (own_fwd t1)), (.int (own_fwd t2))]) _
    by_cases c21_24 : (own_fwd t2) = (own_fwd t1)
    · refine own_icmpF X23 hx (pc' := 24) rfl (hb hby d_prog_28_method_7_code_21) (XT.ii_ne_f c21_24) ?_
      refine own_iinc X23 hx (v := (3 : Int32)) (Ls' := #[.val (.ref a1), .val (.int (4 : Int32)), .val (.int (2 : Int32)), .val (.int (3 : Int32))]) (pc' := 27) rfl (hb hby d_prog_28_method_7_code_24) rfl (by decide) rfl ?_
      refine own_goto X23 hx (pc' := 2) (hb hby d_prog_28_method_7_code_27) (by decide) (by decide) ?_
      refine own_iloadN X23 hx (pc' := 3) rfl (hb hby d_prog_28_method_7_code_2) rfl ?_
      refine own_iloadN X23 hx (pc' := 4) rfl (hb hby d_prog_28_method_7_code_3) rfl ?_
      refine own_icmpF X23 hx (pc' := 7) rfl (hb hby d_prog_28_method_7_code_4) (XT.ii_ge_f (by decide)) ?_
      refine own_aloadN X23 hx (pc' := 8) rfl (hb hby d_prog_28_method_7_code_7) rfl rfl ?_
      refine own_iloadN X23 hx (pc' := 9) rfl (hb hby d_prog_28_method_7_code_8) rfl ?_
      refine own_ldI X23 hx hZ e23 I0 (k := 3) (by decide) (by decide) (by decide) (v := (.int t3)) hf.2.2.2.1 (pc' := 10) rfl (hb hby d_prog_28_method_7_code_9) ?_
      refine own_callS X23 hx hZ (y := (⟨"com/example/rhoquery/rhoquery/InstanceGraph", "isForward", "(I)Z"⟩ : MethodName)) hown (hw _ (List.mem_of_getElem? (i := 15) rfl)) (hw _ (List.mem_of_getElem? (i := 16) rfl)) (hw _ (List.mem_of_getElem? (i := 17) rfl)) (hw _ (List.mem_of_getElem? (i := 18) rfl))  (by decide) (rm_fwd l Z a0 hw [] t3 h0 n0 Z0) (by decide) (W := 0) (by decide) (by decide) (by decide) e23 (by rw [hml]; rfl) (argsL := [(.int t3)]) (rest := []) rfl (lenOf pd__I_Z rfl) rfl (Nat.le_of_eq rfl) (pc' := 13) rfl (hb hby d_prog_28_method_7_code_10) ?_
      rintro _ T25 L25 X25 ⟨rfl, N25, e25⟩
      have M25 := Fr.app M23 N25
      show own_Goes p e below T25 (mkF m 13 #[.val (.ref a1), .val (.int (4 : Int32)), .val (.int (2 : Int32)), .val (.int (3 : Int32))] [(.int (own_fwd t3))]) _
      refine own_aloadN X25 hx (pc' := 14) rfl (hb hby d_prog_28_method_7_code_13) rfl rfl ?_
      refine own_iloadN X25 hx (pc' := 15) rfl (hb hby d_prog_28_method_7_code_14) rfl ?_
      refine own_iconst X25 hx (v := (1 : Int32)) (pc' := 16) rfl (hb hby d_prog_28_method_7_code_15) rfl ?_
      refine own_isub X25 hx (v := (2 : Int32)) (pc' := 17) rfl (hb hby d_prog_28_method_7_code_16) (by decide) ?_
      refine own_ldI X25 hx hZ e25 I0 (k := 2) (by decide) (by decide) (by decide) (v := (.int t2)) hf.2.2.1 (pc' := 18) rfl (hb hby d_prog_28_method_7_code_17) ?_
      refine own_callS X25 hx hZ (y := (⟨"com/example/rhoquery/rhoquery/InstanceGraph", "isForward", "(I)Z"⟩ : MethodName)) hown (hw _ (List.mem_of_getElem? (i := 15) rfl)) (hw _ (List.mem_of_getElem? (i := 16) rfl)) (hw _ (List.mem_of_getElem? (i := 17) rfl)) (hw _ (List.mem_of_getElem? (i := 18) rfl))  (by decide) (rm_fwd l Z a0 hw [] t2 h0 n0 Z0) (by decide) (W := 1) (by decide) (by decide) (by decide) e25 (by rw [hml]; rfl) (argsL := [(.int t2)]) (rest := [(.int (own_fwd t3))]) rfl (lenOf pd__I_Z rfl) rfl (Nat.le_of_eq rfl) (pc' := 21) rfl (hb hby d_prog_28_method_7_code_18) ?_
      rintro _ T26 L26 X26 ⟨rfl, N26, e26⟩
      have M26 := Fr.app M25 N26
      show own_Goes p e below T26 (mkF m 21 #[.val (.ref a1), .val (.int (4 : Int32)), .val (.int (2 : Int32)), .val (.int (3 : Int32))] [(.int (own_fwd t2)), (.int (own_fwd t3))]) _
      by_cases c21_27 : (own_fwd t3) = (own_fwd t2)
      · refine own_icmpF X26 hx (pc' := 24) rfl (hb hby d_prog_28_method_7_code_21) (XT.ii_ne_f c21_27) ?_
        refine own_iinc X26 hx (v := (4 : Int32)) (Ls' := #[.val (.ref a1), .val (.int (4 : Int32)), .val (.int (2 : Int32)), .val (.int (4 : Int32))]) (pc' := 27) rfl (hb hby d_prog_28_method_7_code_24) rfl (by decide) rfl ?_
        refine own_goto X26 hx (pc' := 2) (hb hby d_prog_28_method_7_code_27) (by decide) (by decide) ?_
        refine own_iloadN X26 hx (pc' := 3) rfl (hb hby d_prog_28_method_7_code_2) rfl ?_
        refine own_iloadN X26 hx (pc' := 4) rfl (hb hby d_prog_28_method_7_code_3) rfl ?_
        refine own_icmpT X26 hx (pc' := 30) (hb hby d_prog_28_method_7_code_4) (XT.ii_ge_t (by decide)) (by decide) (by decide) ?_
        refine own_iloadN X26 hx (pc' := 31) rfl (hb hby d_prog_28_method_7_code_30) rfl ?_
        refine own_iret X26 hx hlk hret (hb hby d_prog_28_method_7_code_31) (by decide) (by decide) ?_
        rw [e26]
        exact ⟨by first | (simp only [own_nx, if_pos c21_24, if_pos c21_27]; done) | (simp only [own_nx, if_pos c21_24, if_pos c21_27]; rfl), M26, rfl⟩
      · refine own_icmpT X26 hx (pc' := 30) (hb hby d_prog_28_method_7_code_21) (XT.ii_ne_t c21_27) (by decide) (by decide) ?_
        refine own_iloadN X26 hx (pc' := 31) rfl (hb hby d_prog_28_method_7_code_30) rfl ?_
        refine own_iret X26 hx hlk hret (hb hby d_prog_28_method_7_code_31) (by decide) (by decide) ?_
        rw [e26]
        exact ⟨by first | (simp only [own_nx, if_pos c21_24, if_neg c21_27]; done) | (simp only [own_nx, if_pos c21_24, if_neg c21_27]; rfl), M26, rfl⟩
    · refine own_icmpT X23 hx (pc' := 30) (hb hby d_prog_28_method_7_code_21) (XT.ii_ne_t c21_24) (by decide) (by decide) ?_
      refine own_iloadN X23 hx (pc' := 31) rfl (hb hby d_prog_28_method_7_code_30) rfl ?_
      refine own_iret X23 hx hlk hret (hb hby d_prog_28_method_7_code_31) (by decide) (by decide) ?_
      rw [e23]
      exact ⟨by first | (simp only [own_nx, if_neg c21_24]; done) | (simp only [own_nx, if_neg c21_24]; rfl), M23, rfl⟩
  · refine own_iloadN X0 hx (pc' := 1) rfl (hb hby d_prog_28_method_7_code_0) rfl ?_
    refine own_istoreN X0 hx (Ls' := #[.val (.ref a1), .val (.int (4 : Int32)), .val (.int (3 : Int32)), .val (.int (3 : Int32))]) (pc' := 2) rfl (hb hby d_prog_28_method_7_code_1) rfl ?_
    refine own_iloadN X0 hx (pc' := 3) rfl (hb hby d_prog_28_method_7_code_2) rfl ?_
    refine own_iloadN X0 hx (pc' := 4) rfl (hb hby d_prog_28_method_7_code_3) rfl ?_
    refine own_icmpF X0 hx (pc' := 7) rfl (hb hby d_prog_28_method_7_code_4) (XT.ii_ge_f (by decide)) ?_
    refine own_aloadN X0 hx (pc' := 8) rfl (hb hby d_prog_28_method_7_code_7) rfl rfl ?_
    refine own_iloadN X0 hx (pc' := 9) rfl (hb hby d_prog_28_method_7_code_8) rfl ?_
    refine own_ldI X0 hx hZ e0 I0 (k := 3) (by decide) (by decide) (by decide) (v := (.int t3)) hf.2.2.2.1 (pc' := 10) rfl (hb hby d_prog_28_method_7_code_9) ?_
    refine own_callS X0 hx hZ (y := (⟨"com/example/rhoquery/rhoquery/InstanceGraph", "isForward", "(I)Z"⟩ : MethodName)) hown (hw _ (List.mem_of_getElem? (i := 15) rfl)) (hw _ (List.mem_of_getElem? (i := 16) rfl)) (hw _ (List.mem_of_getElem? (i := 17) rfl)) (hw _ (List.mem_of_getElem? (i := 18) rfl))  (by decide) (rm_fwd l Z a0 hw [] t3 h0 n0 Z0) (by decide) (W := 0) (by decide) (by decide) (by decide) e0 (by rw [hml]; rfl) (argsL := [(.int t3)]) (rest := []) rfl (lenOf pd__I_Z rfl) rfl (Nat.le_of_eq rfl) (pc' := 13) rfl (hb hby d_prog_28_method_7_code_10) ?_
    rintro _ T28 L28 X28 ⟨rfl, N28, e28⟩
    have M28 := Fr.app N0 N28
    show own_Goes p e below T28 (mkF m 13 #[.val (.ref a1), .val (.int (4 : Int32)), .val (.int (3 : Int32)), .val (.int (3 : Int32))] [(.int (own_fwd t3))]) _
    refine own_aloadN X28 hx (pc' := 14) rfl (hb hby d_prog_28_method_7_code_13) rfl rfl ?_
    refine own_iloadN X28 hx (pc' := 15) rfl (hb hby d_prog_28_method_7_code_14) rfl ?_
    refine own_iconst X28 hx (v := (1 : Int32)) (pc' := 16) rfl (hb hby d_prog_28_method_7_code_15) rfl ?_
    refine own_isub X28 hx (v := (2 : Int32)) (pc' := 17) rfl (hb hby d_prog_28_method_7_code_16) (by decide) ?_
    refine own_ldI X28 hx hZ e28 I0 (k := 2) (by decide) (by decide) (by decide) (v := (.int t2)) hf.2.2.1 (pc' := 18) rfl (hb hby d_prog_28_method_7_code_17) ?_
    refine own_callS X28 hx hZ (y := (⟨"com/example/rhoquery/rhoquery/InstanceGraph", "isForward", "(I)Z"⟩ : MethodName)) hown (hw _ (List.mem_of_getElem? (i := 15) rfl)) (hw _ (List.mem_of_getElem? (i := 16) rfl)) (hw _ (List.mem_of_getElem? (i := 17) rfl)) (hw _ (List.mem_of_getElem? (i := 18) rfl))  (by decide) (rm_fwd l Z a0 hw [] t2 h0 n0 Z0) (by decide) (W := 1) (by decide) (by decide) (by decide) e28 (by rw [hml]; rfl) (argsL := [(.int t2)]) (rest := [(.int (own_fwd t3))]) rfl (lenOf pd__I_Z rfl) rfl (Nat.le_of_eq rfl) (pc' := 21) rfl (hb hby d_prog_28_method_7_code_18) ?_
    rintro _ T29 L29 X29 ⟨rfl, N29, e29⟩
    have M29 := Fr.app M28 N29
    show own_Goes p e below T29 (mkF m 21 #[.val (.ref a1), .val (.int (4 : Int32)), .val (.int (3 : Int32)), .val (.int (3 : Int32))] [(.int (own_fwd t2)), (.int (own_fwd t3))]) _
    by_cases c21_30 : (own_fwd t3) = (own_fwd t2)
    · refine own_icmpF X29 hx (pc' := 24) rfl (hb hby d_prog_28_method_7_code_21) (XT.ii_ne_f c21_30) ?_
      refine own_iinc X29 hx (v := (4 : Int32)) (Ls' := #[.val (.ref a1), .val (.int (4 : Int32)), .val (.int (3 : Int32)), .val (.int (4 : Int32))]) (pc' := 27) rfl (hb hby d_prog_28_method_7_code_24) rfl (by decide) rfl ?_
      refine own_goto X29 hx (pc' := 2) (hb hby d_prog_28_method_7_code_27) (by decide) (by decide) ?_
      refine own_iloadN X29 hx (pc' := 3) rfl (hb hby d_prog_28_method_7_code_2) rfl ?_
      refine own_iloadN X29 hx (pc' := 4) rfl (hb hby d_prog_28_method_7_code_3) rfl ?_
      refine own_icmpT X29 hx (pc' := 30) (hb hby d_prog_28_method_7_code_4) (XT.ii_ge_t (by decide)) (by decide) (by decide) ?_
      refine own_iloadN X29 hx (pc' := 31) rfl (hb hby d_prog_28_method_7_code_30) rfl ?_
      refine own_iret X29 hx hlk hret (hb hby d_prog_28_method_7_code_31) (by decide) (by decide) ?_
      rw [e29]
      exact ⟨by first | (simp only [own_nx, if_pos c21_30]; done) | (simp only [own_nx, if_pos c21_30]; rfl), M29, rfl⟩
    · refine own_icmpT X29 hx (pc' := 30) (hb hby d_prog_28_method_7_code_21) (XT.ii_ne_t c21_30) (by decide) (by decide) ?_
      refine own_iloadN X29 hx (pc' := 31) rfl (hb hby d_prog_28_method_7_code_30) rfl ?_
      refine own_iret X29 hx hlk hret (hb hby d_prog_28_method_7_code_31) (by decide) (by decide) ?_
      rw [e29]
      exact ⟨by first | (simp only [own_nx, if_neg c21_30]; done) | (simp only [own_nx, if_neg c21_30]; rfl), M29, rfl⟩
  · refine own_iloadN X0 hx (pc' := 1) rfl (hb hby d_prog_28_method_7_code_0) rfl ?_
    refine own_istoreN X0 hx (Ls' := #[.val (.ref a1), .val (.int (4 : Int32)), .val (.int (4 : Int32)), .val (.int (4 : Int32))]) (pc' := 2) rfl (hb hby d_prog_28_method_7_code_1) rfl ?_
    refine own_iloadN X0 hx (pc' := 3) rfl (hb hby d_prog_28_method_7_code_2) rfl ?_
    refine own_iloadN X0 hx (pc' := 4) rfl (hb hby d_prog_28_method_7_code_3) rfl ?_
    refine own_icmpT X0 hx (pc' := 30) (hb hby d_prog_28_method_7_code_4) (XT.ii_ge_t (by decide)) (by decide) (by decide) ?_
    refine own_iloadN X0 hx (pc' := 31) rfl (hb hby d_prog_28_method_7_code_30) rfl ?_
    refine own_iret X0 hx hlk hret (hb hby d_prog_28_method_7_code_31) (by decide) (by decide) ?_
    rw [e0]
    exact ⟨by first | (simp only [own_nx, ]; done) | (simp only [own_nx, ]; rfl), N0, rfl⟩
  · refine own_iloadN X0 hx (pc' := 1) rfl (hb hby d_prog_28_method_7_code_0) rfl ?_
    refine own_istoreN X0 hx (Ls' := #[.val (.ref a1), .val (.int (5 : Int32)), .val (.int (1 : Int32)), .val (.int (1 : Int32))]) (pc' := 2) rfl (hb hby d_prog_28_method_7_code_1) rfl ?_
    refine own_iloadN X0 hx (pc' := 3) rfl (hb hby d_prog_28_method_7_code_2) rfl ?_
    refine own_iloadN X0 hx (pc' := 4) rfl (hb hby d_prog_28_method_7_code_3) rfl ?_
    refine own_icmpF X0 hx (pc' := 7) rfl (hb hby d_prog_28_method_7_code_4) (XT.ii_ge_f (by decide)) ?_
    refine own_aloadN X0 hx (pc' := 8) rfl (hb hby d_prog_28_method_7_code_7) rfl rfl ?_
    refine own_iloadN X0 hx (pc' := 9) rfl (hb hby d_prog_28_method_7_code_8) rfl ?_
    refine own_ldI X0 hx hZ e0 I0 (k := 1) (by decide) (by decide) (by decide) (v := (.int t1)) hf.2.1 (pc' := 10) rfl (hb hby d_prog_28_method_7_code_9) ?_
    refine own_callS X0 hx hZ (y := (⟨"com/example/rhoquery/rhoquery/InstanceGraph", "isForward", "(I)Z"⟩ : MethodName)) hown (hw _ (List.mem_of_getElem? (i := 15) rfl)) (hw _ (List.mem_of_getElem? (i := 16) rfl)) (hw _ (List.mem_of_getElem? (i := 17) rfl)) (hw _ (List.mem_of_getElem? (i := 18) rfl))  (by decide) (rm_fwd l Z a0 hw [] t1 h0 n0 Z0) (by decide) (W := 0) (by decide) (by decide) (by decide) e0 (by rw [hml]; rfl) (argsL := [(.int t1)]) (rest := []) rfl (lenOf pd__I_Z rfl) rfl (Nat.le_of_eq rfl) (pc' := 13) rfl (hb hby d_prog_28_method_7_code_10) ?_
    rintro _ T31 L31 X31 ⟨rfl, N31, e31⟩
    have M31 := Fr.app N0 N31
    show own_Goes p e below T31 (mkF m 13 #[.val (.ref a1), .val (.int (5 : Int32)), .val (.int (1 : Int32)), .val (.int (1 : Int32))] [(.int (own_fwd t1))]) _
    refine own_aloadN X31 hx (pc' := 14) rfl (hb hby d_prog_28_method_7_code_13) rfl rfl ?_
    refine own_iloadN X31 hx (pc' := 15) rfl (hb hby d_prog_28_method_7_code_14) rfl ?_
    refine own_iconst X31 hx (v := (1 : Int32)) (pc' := 16) rfl (hb hby d_prog_28_method_7_code_15) rfl ?_
    refine own_isub X31 hx (v := (0 : Int32)) (pc' := 17) rfl (hb hby d_prog_28_method_7_code_16) (by decide) ?_
    refine own_ldI X31 hx hZ e31 I0 (k := 0) (by decide) (by decide) (by decide) (v := (.int t0)) hf.1 (pc' := 18) rfl (hb hby d_prog_28_method_7_code_17) ?_
    refine own_callS X31 hx hZ (y := (⟨"com/example/rhoquery/rhoquery/InstanceGraph", "isForward", "(I)Z"⟩ : MethodName)) hown (hw _ (List.mem_of_getElem? (i := 15) rfl)) (hw _ (List.mem_of_getElem? (i := 16) rfl)) (hw _ (List.mem_of_getElem? (i := 17) rfl)) (hw _ (List.mem_of_getElem? (i := 18) rfl))  (by decide) (rm_fwd l Z a0 hw [] t0 h0 n0 Z0) (by decide) (W := 1) (by decide) (by decide) (by decide) e31 (by rw [hml]; rfl) (argsL := [(.int t0)]) (rest := [(.int (own_fwd t1))]) rfl (lenOf pd__I_Z rfl) rfl (Nat.le_of_eq rfl) (pc' := 21) rfl (hb hby d_prog_28_method_7_code_18) ?_
    rintro _ T32 L32 X32 ⟨rfl, N32, e32⟩
    have M32 := Fr.app M31 N32
    show own_Goes p e below T32 (mkF m 21 #[.val (.ref a1), .val (.int (5 : Int32)), .val (.int (1 : Int32)), .val (.int (1 : Int32))] [(.int (own_fwd t0)), (.int (own_fwd t1))]) _
    by_cases c21_33 : (own_fwd t1) = (own_fwd t0)
    · refine own_icmpF X32 hx (pc' := 24) rfl (hb hby d_prog_28_method_7_code_21) (XT.ii_ne_f c21_33) ?_
      refine own_iinc X32 hx (v := (2 : Int32)) (Ls' := #[.val (.ref a1), .val (.int (5 : Int32)), .val (.int (1 : Int32)), .val (.int (2 : Int32))]) (pc' := 27) rfl (hb hby d_prog_28_method_7_code_24) rfl (by decide) rfl ?_
      refine own_goto X32 hx (pc' := 2) (hb hby d_prog_28_method_7_code_27) (by decide) (by decide) ?_
      refine own_iloadN X32 hx (pc' := 3) rfl (hb hby d_prog_28_method_7_code_2) rfl ?_
      refine own_iloadN X32 hx (pc' := 4) rfl (hb hby d_prog_28_method_7_code_3) rfl ?_
      refine own_icmpF X32 hx (pc' := 7) rfl (hb hby d_prog_28_method_7_code_4) (XT.ii_ge_f (by decide)) ?_
      refine own_aloadN X32 hx (pc' := 8) rfl (hb hby d_prog_28_method_7_code_7) rfl rfl ?_
      refine own_iloadN X32 hx (pc' := 9) rfl (hb hby d_prog_28_method_7_code_8) rfl ?_
      refine own_ldI X32 hx hZ e32 I0 (k := 2) (by decide) (by decide) (by decide) (v := (.int t2)) hf.2.2.1 (pc' := 10) rfl (hb hby d_prog_28_method_7_code_9) ?_
      refine own_callS X32 hx hZ (y := (⟨"com/example/rhoquery/rhoquery/InstanceGraph", "isForward", "(I)Z"⟩ : MethodName)) hown (hw _ (List.mem_of_getElem? (i := 15) rfl)) (hw _ (List.mem_of_getElem? (i := 16) rfl)) (hw _ (List.mem_of_getElem? (i := 17) rfl)) (hw _ (List.mem_of_getElem? (i := 18) rfl))  (by decide) (rm_fwd l Z a0 hw [] t2 h0 n0 Z0) (by decide) (W := 0) (by decide) (by decide) (by decide) e32 (by rw [hml]; rfl) (argsL := [(.int t2)]) (rest := []) rfl (lenOf pd__I_Z rfl) rfl (Nat.le_of_eq rfl) (pc' := 13) rfl (hb hby d_prog_28_method_7_code_10) ?_
      rintro _ T34 L34 X34 ⟨rfl, N34, e34⟩
      have M34 := Fr.app M32 N34
      show own_Goes p e below T34 (mkF m 13 #[.val (.ref a1), .val (.int (5 : Int32)), .val (.int (1 : Int32)), .val (.int (2 : Int32))] [(.int (own_fwd t2))]) _
      refine own_aloadN X34 hx (pc' := 14) rfl (hb hby d_prog_28_method_7_code_13) rfl rfl ?_
      refine own_iloadN X34 hx (pc' := 15) rfl (hb hby d_prog_28_method_7_code_14) rfl ?_
      refine own_iconst X34 hx (v := (1 : Int32)) (pc' := 16) rfl (hb hby d_prog_28_method_7_code_15) rfl ?_
      refine own_isub X34 hx (v := (1 : Int32)) (pc' := 17) rfl (hb hby d_prog_28_method_7_code_16) (by decide) ?_
      refine own_ldI X34 hx hZ e34 I0 (k := 1) (by decide) (by decide) (by decide) (v := (.int t1)) hf.2.1 (pc' := 18) rfl (hb hby d_prog_28_method_7_code_17) ?_
      refine own_callS X34 hx hZ (y := (⟨"com/example/rhoquery/rhoquery/InstanceGraph", "isForward", "(I)Z"⟩ : MethodName)) hown (hw _ (List.mem_of_getElem? (i := 15) rfl)) (hw _ (List.mem_of_getElem? (i := 16) rfl)) (hw _ (List.mem_of_getElem? (i := 17) rfl)) (hw _ (List.mem_of_getElem? (i := 18) rfl))  (by decide) (rm_fwd l Z a0 hw [] t1 h0 n0 Z0) (by decide) (W := 1) (by decide) (by decide) (by decide) e34 (by rw [hml]; rfl) (argsL := [(.int t1)]) (rest := [(.int (own_fwd t2))]) rfl (lenOf pd__I_Z rfl) rfl (Nat.le_of_eq rfl) (pc' := 21) rfl (hb hby d_prog_28_method_7_code_18) ?_
      rintro _ T35 L35 X35 ⟨rfl, N35, e35⟩
      have M35 := Fr.app M34 N35
      show own_Goes p e below T35 (mkF m 21 #[.val (.ref a1), .val (.int (5 : Int32)), .val (.int (1 : Int32)), .val (.int (2 : Int32))] [(.int (own_fwd t1)), (.int (own_fwd t2))]) _
      by_cases c21_36 : (own_fwd t2) = (own_fwd t1)
      · refine own_icmpF X35 hx (pc' := 24) rfl (hb hby d_prog_28_method_7_code_21) (XT.ii_ne_f c21_36) ?_
        refine own_iinc X35 hx (v := (3 : Int32)) (Ls' := #[.val (.ref a1), .val (.int (5 : Int32)), .val (.int (1 : Int32)), .val (.int (3 : Int32))]) (pc' := 27) rfl (hb hby d_prog_28_method_7_code_24) rfl (by decide) rfl ?_
        refine own_goto X35 hx (pc' := 2) (hb hby d_prog_28_method_7_code_27) (by decide) (by decide) ?_
        refine own_iloadN X35 hx (pc' := 3) rfl (hb hby d_prog_28_method_7_code_2) rfl ?_
        refine own_iloadN X35 hx (pc' := 4) rfl (hb hby d_prog_28_method_7_code_3) rfl ?_
        refine own_icmpF X35 hx (pc' := 7) rfl (hb hby d_prog_28_method_7_code_4) (XT.ii_ge_f (by decide)) ?_
        refine own_aloadN X35 hx (pc' := 8) rfl (hb hby d_prog_28_method_7_code_7) rfl rfl ?_
        refine own_iloadN X35 hx (pc' := 9) rfl (hb hby d_prog_28_method_7_code_8) rfl ?_
        refine own_ldI X35 hx hZ e35 I0 (k := 3) (by decide) (by decide) (by decide) (v := (.int t3)) hf.2.2.2.1 (pc' := 10) rfl (hb hby d_prog_28_method_7_code_9) ?_
        refine own_callS X35 hx hZ (y := (⟨"com/example/rhoquery/rhoquery/InstanceGraph", "isForward", "(I)Z"⟩ : MethodName)) hown (hw _ (List.mem_of_getElem? (i := 15) rfl)) (hw _ (List.mem_of_getElem? (i := 16) rfl)) (hw _ (List.mem_of_getElem? (i := 17) rfl)) (hw _ (List.mem_of_getElem? (i := 18) rfl))  (by decide) (rm_fwd l Z a0 hw [] t3 h0 n0 Z0) (by decide) (W := 0) (by decide) (by decide) (by decide) e35 (by rw [hml]; rfl) (argsL := [(.int t3)]) (rest := []) rfl (lenOf pd__I_Z rfl) rfl (Nat.le_of_eq rfl) (pc' := 13) rfl (hb hby d_prog_28_method_7_code_10) ?_
        rintro _ T37 L37 X37 ⟨rfl, N37, e37⟩
        have M37 := Fr.app M35 N37
        show own_Goes p e below T37 (mkF m 13 #[.val (.ref a1), .val (.int (5 : Int32)), .val (.int (1 : Int32)), .val (.int (3 : Int32))] [(.int (own_fwd t3))]) _
        refine own_aloadN X37 hx (pc' := 14) rfl (hb hby d_prog_28_method_7_code_13) rfl rfl ?_
        refine own_iloadN X37 hx (pc' := 15) rfl (hb hby d_prog_28_method_7_code_14) rfl ?_
        refine own_iconst X37 hx (v := (1 : Int32)) (pc' := 16) rfl (hb hby d_prog_28_method_7_code_15) rfl ?_
        refine own_isub X37 hx (v := (2 : Int32)) (pc' := 17) rfl (hb hby d_prog_28_method_7_code_16) (by decide) ?_
        refine own_ldI X37 hx hZ e37 I0 (k := 2) (by decide) (by decide) (by decide) (v := (.int t2)) hf.2.2.1 (pc' := 18) rfl (hb hby d_prog_28_method_7_code_17) ?_
        refine own_callS X37 hx hZ (y := (⟨"com/example/rhoquery/rhoquery/InstanceGraph", "isForward", "(I)Z"⟩ : MethodName)) hown (hw _ (List.mem_of_getElem? (i := 15) rfl)) (hw _ (List.mem_of_getElem? (i := 16) rfl)) (hw _ (List.mem_of_getElem? (i := 17) rfl)) (hw _ (List.mem_of_getElem? (i := 18) rfl))  (by decide) (rm_fwd l Z a0 hw [] t2 h0 n0 Z0) (by decide) (W := 1) (by decide) (by decide) (by decide) e37 (by rw [hml]; rfl) (argsL := [(.int t2)]) (rest := [(.int (own_fwd t3))]) rfl (lenOf pd__I_Z rfl) rfl (Nat.le_of_eq rfl) (pc' := 21) rfl (hb hby d_prog_28_method_7_code_18) ?_
        rintro _ T38 L38 X38 ⟨rfl, N38, e38⟩
        have M38 := Fr.app M37 N38
        show own_Goes p e below T38 (mkF m 21 #[.val (.ref a1), .val (.int (5 : Int32)), .val (.int (1 : Int32)), .val (.int (3 : Int32))] [(.int (own_fwd t2)), (.int (own_fwd t3))]) _
        by_cases c21_39 : (own_fwd t3) = (own_fwd t2)
        · refine own_icmpF X38 hx (pc' := 24) rfl (hb hby d_prog_28_method_7_code_21) (XT.ii_ne_f c21_39) ?_
          refine own_iinc X38 hx (v := (4 : Int32)) (Ls' := #[.val (.ref a1), .val (.int (5 : Int32)), .val (.int (1 : Int32)), .val (.int (4 : Int32))]) (pc' := 27) rfl (hb hby d_prog_28_method_7_code_24) rfl (by decide) rfl ?_
          refine own_goto X38 hx (pc' := 2) (hb hby d_prog_28_method_7_code_27) (by decide) (by decide) ?_
          refine own_iloadN X38 hx (pc' := 3) rfl (hb hby d_prog_28_method_7_code_2) rfl ?_
          refine own_iloadN X38 hx (pc' := 4) rfl (hb hby d_prog_28_method_7_code_3) rfl ?_
          refine own_icmpF X38 hx (pc' := 7) rfl (hb hby d_prog_28_method_7_code_4) (XT.ii_ge_f (by decide)) ?_
          refine own_aloadN X38 hx (pc' := 8) rfl (hb hby d_prog_28_method_7_code_7) rfl rfl ?_
          refine own_iloadN X38 hx (pc' := 9) rfl (hb hby d_prog_28_method_7_code_8) rfl ?_
          refine own_ldI X38 hx hZ e38 I0 (k := 4) (by decide) (by decide) (by decide) (v := (.int t4)) hf.2.2.2.2 (pc' := 10) rfl (hb hby d_prog_28_method_7_code_9) ?_
          refine own_callS X38 hx hZ (y := (⟨"com/example/rhoquery/rhoquery/InstanceGraph", "isForward", "(I)Z"⟩ : MethodName)) hown (hw _ (List.mem_of_getElem? (i := 15) rfl)) (hw _ (List.mem_of_getElem? (i := 16) rfl)) (hw _ (List.mem_of_getElem? (i := 17) rfl)) (hw _ (List.mem_of_getElem? (i := 18) rfl))  (by decide) (rm_fwd l Z a0 hw [] t4 h0 n0 Z0) (by decide) (W := 0) (by decide) (by decide) (by decide) e38 (by rw [hml]; rfl) (argsL := [(.int t4)]) (rest := []) rfl (lenOf pd__I_Z rfl) rfl (Nat.le_of_eq rfl) (pc' := 13) rfl (hb hby d_prog_28_method_7_code_10) ?_
          rintro _ T40 L40 X40 ⟨rfl, N40, e40⟩
          have M40 := Fr.app M38 N40
          show own_Goes p e below T40 (mkF m 13 #[.val (.ref a1), .val (.int (5 : Int32)), .val (.int (1 : Int32)), .val (.int (4 : Int32))] [(.int (own_fwd t4))]) _
          refine own_aloadN X40 hx (pc' := 14) rfl (hb hby d_prog_28_method_7_code_13) rfl rfl ?_
          refine own_iloadN X40 hx (pc' := 15) rfl (hb hby d_prog_28_method_7_code_14) rfl ?_
          refine own_iconst X40 hx (v := (1 : Int32)) (pc' := 16) rfl (hb hby d_prog_28_method_7_code_15) rfl ?_
          refine own_isub X40 hx (v := (3 : Int32)) (pc' := 17) rfl (hb hby d_prog_28_method_7_code_16) (by decide) ?_
          refine own_ldI X40 hx hZ e40 I0 (k := 3) (by decide) (by decide) (by decide) (v := (.int t3)) hf.2.2.2.1 (pc' := 18) rfl (hb hby d_prog_28_method_7_code_17) ?_
          refine own_callS X40 hx hZ (y := (⟨"com/example/rhoquery/rhoquery/InstanceGraph", "isForward", "(I)Z"⟩ : MethodName)) hown (hw _ (List.mem_of_getElem? (i := 15) rfl)) (hw _ (List.mem_of_getElem? (i := 16) rfl)) (hw _ (List.mem_of_getElem? (i := 17) rfl)) (hw _ (List.mem_of_getElem? (i := 18) rfl))  (by decide) (rm_fwd l Z a0 hw [] t3 h0 n0 Z0) (by decide) (W := 1) (by decide) (by decide) (by decide) e40 (by rw [hml]; rfl) (argsL := [(.int t3)]) (rest := [(.int (own_fwd t4))]) rfl (lenOf pd__I_Z rfl) rfl (Nat.le_of_eq rfl) (pc' := 21) rfl (hb hby d_prog_28_method_7_code_18) ?_
          rintro _ T41 L41 X41 ⟨rfl, N41, e41⟩
          have M41 := Fr.app M40 N41
          show own_Goes p e below T41 (mkF m 21 #[.val (.ref a1), .val (.int (5 : Int32)), .val (.int (1 : Int32)), .val (.int (4 : Int32))] [(.int (own_fwd t3)), (.int (own_fwd t4))]) _
          by_cases c21_42 : (own_fwd t4) = (own_fwd t3)
          · refine own_icmpF X41 hx (pc' := 24) rfl (hb hby d_prog_28_method_7_code_21) (XT.ii_ne_f c21_42) ?_
            refine own_iinc X41 hx (v := (5 : Int32)) (Ls' := #[.val (.ref a1), .val (.int (5 : Int32)), .val (.int (1 : Int32)), .val (.int (5 : Int32))]) (pc' := 27) rfl (hb hby d_prog_28_method_7_code_24) rfl (by decide) rfl ?_
            refine own_goto X41 hx (pc' := 2) (hb hby d_prog_28_method_7_code_27) (by decide) (by decide) ?_
            refine own_iloadN X41 hx (pc' := 3) rfl (hb hby d_prog_28_method_7_code_2) rfl ?_
            refine own_iloadN X41 hx (pc' := 4) rfl (hb hby d_prog_28_method_7_code_3) rfl ?_
            refine own_icmpT X41 hx (pc' := 30) (hb hby d_prog_28_method_7_code_4) (XT.ii_ge_t (by decide)) (by decide) (by decide) ?_
            refine own_iloadN X41 hx (pc' := 31) rfl (hb hby d_prog_28_method_7_code_30) rfl ?_
            refine own_iret X41 hx hlk hret (hb hby d_prog_28_method_7_code_31) (by decide) (by decide) ?_
            rw [e41]
            exact ⟨by first | (simp only [own_nx, if_pos c21_33, if_pos c21_36, if_pos c21_39, if_pos c21_42]; done) | (simp only [own_nx, if_pos c21_33, if_pos c21_36, if_pos c21_39, if_pos c21_42]; rfl), M41, rfl⟩
          · refine own_icmpT X41 hx (pc' := 30) (hb hby d_prog_28_method_7_code_21) (XT.ii_ne_t c21_42) (by decide) (by decide) ?_
            refine own_iloadN X41 hx (pc' := 31) rfl (hb hby d_prog_28_method_7_code_30) rfl ?_
            refine own_iret X41 hx hlk hret (hb hby d_prog_28_method_7_code_31) (by decide) (by decide) ?_
            rw [e41]
            exact ⟨by first | (simp only [own_nx, if_pos c21_33, if_pos c21_36, if_pos c21_39, if_neg c21_42]; done) | (simp only [own_nx, if_pos c21_33, if_pos c21_36, if_pos c21_39, if_neg c21_42]; rfl), M41, rfl⟩
        · refine own_icmpT X38 hx (pc' := 30) (hb hby d_prog_28_method_7_code_21) (XT.ii_ne_t c21_39) (by decide) (by decide) ?_
          refine own_iloadN X38 hx (pc' := 31) rfl (hb hby d_prog_28_method_7_code_30) rfl ?_
          refine own_iret X38 hx hlk hret (hb hby d_prog_28_method_7_code_31) (by decide) (by decide) ?_
          rw [e38]
          exact ⟨by first | (simp only [own_nx, if_pos c21_33, if_pos c21_36, if_neg c21_39]; done) | (simp only [own_nx, if_pos c21_33, if_pos c21_36, if_neg c21_39]; rfl), M38, rfl⟩
      · refine own_icmpT X35 hx (pc' := 30) (hb hby d_prog_28_method_7_code_21) (XT.ii_ne_t c21_36) (by decide) (by decide) ?_
        refine own_iloadN X35 hx (pc' := 31) rfl (hb hby d_prog_28_method_7_code_30) rfl ?_
        refine own_iret X35 hx hlk hret (hb hby d_prog_28_method_7_code_31) (by decide) (by decide) ?_
        rw [e35]
        exact ⟨by first | (simp only [own_nx, if_pos c21_33, if_neg c21_36]; done) | (simp only [own_nx, if_pos c21_33, if_neg c21_36]; rfl), M35, rfl⟩
    · refine own_icmpT X32 hx (pc' := 30) (hb hby d_prog_28_method_7_code_21) (XT.ii_ne_t c21_33) (by decide) (by decide) ?_
      refine own_iloadN X32 hx (pc' := 31) rfl (hb hby d_prog_28_method_7_code_30) rfl ?_
      refine own_iret X32 hx hlk hret (hb hby d_prog_28_method_7_code_31) (by decide) (by decide) ?_
      rw [e32]
      exact ⟨by first | (simp only [own_nx, if_neg c21_33]; done) | (simp only [own_nx, if_neg c21_33]; rfl), M32, rfl⟩
  · refine own_iloadN X0 hx (pc' := 1) rfl (hb hby d_prog_28_method_7_code_0) rfl ?_
    refine own_istoreN X0 hx (Ls' := #[.val (.ref a1), .val (.int (5 : Int32)), .val (.int (2 : Int32)), .val (.int (2 : Int32))]) (pc' := 2) rfl (hb hby d_prog_28_method_7_code_1) rfl ?_
    refine own_iloadN X0 hx (pc' := 3) rfl (hb hby d_prog_28_method_7_code_2) rfl ?_
    refine own_iloadN X0 hx (pc' := 4) rfl (hb hby d_prog_28_method_7_code_3) rfl ?_
    refine own_icmpF X0 hx (pc' := 7) rfl (hb hby d_prog_28_method_7_code_4) (XT.ii_ge_f (by decide)) ?_
    refine own_aloadN X0 hx (pc' := 8) rfl (hb hby d_prog_28_method_7_code_7) rfl rfl ?_
    refine own_iloadN X0 hx (pc' := 9) rfl (hb hby d_prog_28_method_7_code_8) rfl ?_
    refine own_ldI X0 hx hZ e0 I0 (k := 2) (by decide) (by decide) (by decide) (v := (.int t2)) hf.2.2.1 (pc' := 10) rfl (hb hby d_prog_28_method_7_code_9) ?_
    refine own_callS X0 hx hZ (y := (⟨"com/example/rhoquery/rhoquery/InstanceGraph", "isForward", "(I)Z"⟩ : MethodName)) hown (hw _ (List.mem_of_getElem? (i := 15) rfl)) (hw _ (List.mem_of_getElem? (i := 16) rfl)) (hw _ (List.mem_of_getElem? (i := 17) rfl)) (hw _ (List.mem_of_getElem? (i := 18) rfl))  (by decide) (rm_fwd l Z a0 hw [] t2 h0 n0 Z0) (by decide) (W := 0) (by decide) (by decide) (by decide) e0 (by rw [hml]; rfl) (argsL := [(.int t2)]) (rest := []) rfl (lenOf pd__I_Z rfl) rfl (Nat.le_of_eq rfl) (pc' := 13) rfl (hb hby d_prog_28_method_7_code_10) ?_
    rintro _ T43 L43 X43 ⟨rfl, N43, e43⟩
    have M43 := Fr.app N0 N43
    show own_Goes p e below T43 (mkF m 13 #[.val (.ref a1), .val (.int (5 : Int32)), .val (.int (2 : Int32)), .val (.int (2 : Int32))] [(.int (own_fwd t2))]) _
    refine own_aloadN X43 hx (pc' := 14) rfl (hb hby d_prog_28_method_7_code_13) rfl rfl ?_
    refine own_iloadN X43 hx (pc' := 15) rfl (hb hby d_prog_28_method_7_code_14) rfl ?_
    refine own_iconst X43 hx (v := (1 : Int32)) (pc' := 16) rfl (hb hby d_prog_28_method_7_code_15) rfl ?_
    refine own_isub X43 hx (v := (1 : Int32)) (pc' := 17) rfl (hb hby d_prog_28_method_7_code_16) (by decide) ?_
    refine own_ldI X43 hx hZ e43 I0 (k := 1) (by decide) (by decide) (by decide) (v := (.int t1)) hf.2.1 (pc' := 18) rfl (hb hby d_prog_28_method_7_code_17) ?_
    refine own_callS X43 hx hZ (y := (⟨"com/example/rhoquery/rhoquery/InstanceGraph", "isForward", "(I)Z"⟩ : MethodName)) hown (hw _ (List.mem_of_getElem? (i := 15) rfl)) (hw _ (List.mem_of_getElem? (i := 16) rfl)) (hw _ (List.mem_of_getElem? (i := 17) rfl)) (hw _ (List.mem_of_getElem? (i := 18) rfl))  (by decide) (rm_fwd l Z a0 hw [] t1 h0 n0 Z0) (by decide) (W := 1) (by decide) (by decide) (by decide) e43 (by rw [hml]; rfl) (argsL := [(.int t1)]) (rest := [(.int (own_fwd t2))]) rfl (lenOf pd__I_Z rfl) rfl (Nat.le_of_eq rfl) (pc' := 21) rfl (hb hby d_prog_28_method_7_code_18) ?_
    rintro _ T44 L44 X44 ⟨rfl, N44, e44⟩
    have M44 := Fr.app M43 N44
    show own_Goes p e below T44 (mkF m 21 #[.val (.ref a1), .val (.int (5 : Int32)), .val (.int (2 : Int32)), .val (.int (2 : Int32))] [(.int (own_fwd t1)), (.int (own_fwd t2))]) _
    by_cases c21_45 : (own_fwd t2) = (own_fwd t1)
    · refine own_icmpF X44 hx (pc' := 24) rfl (hb hby d_prog_28_method_7_code_21) (XT.ii_ne_f c21_45) ?_
      refine own_iinc X44 hx (v := (3 : Int32)) (Ls' := #[.val (.ref a1), .val (.int (5 : Int32)), .val (.int (2 : Int32)), .val (.int (3 : Int32))]) (pc' := 27) rfl (hb hby d_prog_28_method_7_code_24) rfl (by decide) rfl ?_
      refine own_goto X44 hx (pc' := 2) (hb hby d_prog_28_method_7_code_27) (by decide) (by decide) ?_
      refine own_iloadN X44 hx (pc' := 3) rfl (hb hby d_prog_28_method_7_code_2) rfl ?_
      refine own_iloadN X44 hx (pc' := 4) rfl (hb hby d_prog_28_method_7_code_3) rfl ?_
      refine own_icmpF X44 hx (pc' := 7) rfl (hb hby d_prog_28_method_7_code_4) (XT.ii_ge_f (by decide)) ?_
      refine own_aloadN X44 hx (pc' := 8) rfl (hb hby d_prog_28_method_7_code_7) rfl rfl ?_
      refine own_iloadN X44 hx (pc' := 9) rfl (hb hby d_prog_28_method_7_code_8) rfl ?_
      refine own_ldI X44 hx hZ e44 I0 (k := 3) (by decide) (by decide) (by decide) (v := (.int t3)) hf.2.2.2.1 (pc' := 10) rfl (hb hby d_prog_28_method_7_code_9) ?_
      refine own_callS X44 hx hZ (y := (⟨"com/example/rhoquery/rhoquery/InstanceGraph", "isForward", "(I)Z"⟩ : MethodName)) hown (hw _ (List.mem_of_getElem? (i := 15) rfl)) (hw _ (List.mem_of_getElem? (i := 16) rfl)) (hw _ (List.mem_of_getElem? (i := 17) rfl)) (hw _ (List.mem_of_getElem? (i := 18) rfl))  (by decide) (rm_fwd l Z a0 hw [] t3 h0 n0 Z0) (by decide) (W := 0) (by decide) (by decide) (by decide) e44 (by rw [hml]; rfl) (argsL := [(.int t3)]) (rest := []) rfl (lenOf pd__I_Z rfl) rfl (Nat.le_of_eq rfl) (pc' := 13) rfl (hb hby d_prog_28_method_7_code_10) ?_
      rintro _ T46 L46 X46 ⟨rfl, N46, e46⟩
      have M46 := Fr.app M44 N46
      show own_Goes p e below T46 (mkF m 13 #[.val (.ref a1), .val (.int (5 : Int32)), .val (.int (2 : Int32)), .val (.int (3 : Int32))] [(.int (own_fwd t3))]) _
      refine own_aloadN X46 hx (pc' := 14) rfl (hb hby d_prog_28_method_7_code_13) rfl rfl ?_
      refine own_iloadN X46 hx (pc' := 15) rfl (hb hby d_prog_28_method_7_code_14) rfl ?_
      refine own_iconst X46 hx (v := (1 : Int32)) (pc' := 16) rfl (hb hby d_prog_28_method_7_code_15) rfl ?_
      refine own_isub X46 hx (v := (2 : Int32)) (pc' := 17) rfl (hb hby d_prog_28_method_7_code_16) (by decide) ?_
      refine own_ldI X46 hx hZ e46 I0 (k := 2) (by decide) (by decide) (by decide) (v := (.int t2)) hf.2.2.1 (pc' := 18) rfl (hb hby d_prog_28_method_7_code_17) ?_
      refine own_callS X46 hx hZ (y := (⟨"com/example/rhoquery/rhoquery/InstanceGraph", "isForward", "(I)Z"⟩ : MethodName)) hown (hw _ (List.mem_of_getElem? (i := 15) rfl)) (hw _ (List.mem_of_getElem? (i := 16) rfl)) (hw _ (List.mem_of_getElem? (i := 17) rfl)) (hw _ (List.mem_of_getElem? (i := 18) rfl))  (by decide) (rm_fwd l Z a0 hw [] t2 h0 n0 Z0) (by decide) (W := 1) (by decide) (by decide) (by decide) e46 (by rw [hml]; rfl) (argsL := [(.int t2)]) (rest := [(.int (own_fwd t3))]) rfl (lenOf pd__I_Z rfl) rfl (Nat.le_of_eq rfl) (pc' := 21) rfl (hb hby d_prog_28_method_7_code_18) ?_
      rintro _ T47 L47 X47 ⟨rfl, N47, e47⟩
      have M47 := Fr.app M46 N47
      show own_Goes p e below T47 (mkF m 21 #[.val (.ref a1), .val (.int (5 : Int32)), .val (.int (2 : Int32)), .val (.int (3 : Int32))] [(.int (own_fwd t2)), (.int (own_fwd t3))]) _
      by_cases c21_48 : (own_fwd t3) = (own_fwd t2)
      · refine own_icmpF X47 hx (pc' := 24) rfl (hb hby d_prog_28_method_7_code_21) (XT.ii_ne_f c21_48) ?_
        refine own_iinc X47 hx (v := (4 : Int32)) (Ls' := #[.val (.ref a1), .val (.int (5 : Int32)), .val (.int (2 : Int32)), .val (.int (4 : Int32))]) (pc' := 27) rfl (hb hby d_prog_28_method_7_code_24) rfl (by decide) rfl ?_
        refine own_goto X47 hx (pc' := 2) (hb hby d_prog_28_method_7_code_27) (by decide) (by decide) ?_
        refine own_iloadN X47 hx (pc' := 3) rfl (hb hby d_prog_28_method_7_code_2) rfl ?_
        refine own_iloadN X47 hx (pc' := 4) rfl (hb hby d_prog_28_method_7_code_3) rfl ?_
        refine own_icmpF X47 hx (pc' := 7) rfl (hb hby d_prog_28_method_7_code_4) (XT.ii_ge_f (by decide)) ?_
        refine own_aloadN X47 hx (pc' := 8) rfl (hb hby d_prog_28_method_7_code_7) rfl rfl ?_
        refine own_iloadN X47 hx (pc' := 9) rfl (hb hby d_prog_28_method_7_code_8) rfl ?_
        refine own_ldI X47 hx hZ e47 I0 (k := 4) (by decide) (by decide) (by decide) (v := (.int t4)) hf.2.2.2.2 (pc' := 10) rfl (hb hby d_prog_28_method_7_code_9) ?_
        refine own_callS X47 hx hZ (y := (⟨"com/example/rhoquery/rhoquery/InstanceGraph", "isForward", "(I)Z"⟩ : MethodName)) hown (hw _ (List.mem_of_getElem? (i := 15) rfl)) (hw _ (List.mem_of_getElem? (i := 16) rfl)) (hw _ (List.mem_of_getElem? (i := 17) rfl)) (hw _ (List.mem_of_getElem? (i := 18) rfl))  (by decide) (rm_fwd l Z a0 hw [] t4 h0 n0 Z0) (by decide) (W := 0) (by decide) (by decide) (by decide) e47 (by rw [hml]; rfl) (argsL := [(.int t4)]) (rest := []) rfl (lenOf pd__I_Z rfl) rfl (Nat.le_of_eq rfl) (pc' := 13) rfl (hb hby d_prog_28_method_7_code_10) ?_
        rintro _ T49 L49 X49 ⟨rfl, N49, e49⟩
        have M49 := Fr.app M47 N49
        show own_Goes p e below T49 (mkF m 13 #[.val (.ref a1), .val (.int (5 : Int32)), .val (.int (2 : Int32)), .val (.int (4 : Int32))] [(.int (own_fwd t4))]) _
        refine own_aloadN X49 hx (pc' := 14) rfl (hb hby d_prog_28_method_7_code_13) rfl rfl ?_
        refine own_iloadN X49 hx (pc' := 15) rfl (hb hby d_prog_28_method_7_code_14) rfl ?_
        refine own_iconst X49 hx (v := (1 : Int32)) (pc' := 16) rfl (hb hby d_prog_28_method_7_code_15) rfl ?_
        refine own_isub X49 hx (v := (3 : Int32)) (pc' := 17) rfl (hb hby d_prog_28_method_7_code_16) (by decide) ?_
        refine own_ldI X49 hx hZ e49 I0 (k := 3) (by decide) (by decide) (by decide) (v := (.int t3)) hf.2.2.2.1 (pc' := 18) rfl (hb hby d_prog_28_method_7_code_17) ?_
        refine own_callS X49 hx hZ (y := (⟨"com/example/rhoquery/rhoquery/InstanceGraph", "isForward", "(I)Z"⟩ : MethodName)) hown (hw _ (List.mem_of_getElem? (i := 15) rfl)) (hw _ (List.mem_of_getElem? (i := 16) rfl)) (hw _ (List.mem_of_getElem? (i := 17) rfl)) (hw _ (List.mem_of_getElem? (i := 18) rfl))  (by decide) (rm_fwd l Z a0 hw [] t3 h0 n0 Z0) (by decide) (W := 1) (by decide) (by decide) (by decide) e49 (by rw [hml]; rfl) (argsL := [(.int t3)]) (rest := [(.int (own_fwd t4))]) rfl (lenOf pd__I_Z rfl) rfl (Nat.le_of_eq rfl) (pc' := 21) rfl (hb hby d_prog_28_method_7_code_18) ?_
        rintro _ T50 L50 X50 ⟨rfl, N50, e50⟩
        have M50 := Fr.app M49 N50
        show own_Goes p e below T50 (mkF m 21 #[.val (.ref a1), .val (.int (5 : Int32)), .val (.int (2 : Int32)), .val (.int (4 : Int32))] [(.int (own_fwd t3)), (.int (own_fwd t4))]) _
        by_cases c21_51 : (own_fwd t4) = (own_fwd t3)
        · refine own_icmpF X50 hx (pc' := 24) rfl (hb hby d_prog_28_method_7_code_21) (XT.ii_ne_f c21_51) ?_
          refine own_iinc X50 hx (v := (5 : Int32)) (Ls' := #[.val (.ref a1), .val (.int (5 : Int32)), .val (.int (2 : Int32)), .val (.int (5 : Int32))]) (pc' := 27) rfl (hb hby d_prog_28_method_7_code_24) rfl (by decide) rfl ?_
          refine own_goto X50 hx (pc' := 2) (hb hby d_prog_28_method_7_code_27) (by decide) (by decide) ?_
          refine own_iloadN X50 hx (pc' := 3) rfl (hb hby d_prog_28_method_7_code_2) rfl ?_
          refine own_iloadN X50 hx (pc' := 4) rfl (hb hby d_prog_28_method_7_code_3) rfl ?_
          refine own_icmpT X50 hx (pc' := 30) (hb hby d_prog_28_method_7_code_4) (XT.ii_ge_t (by decide)) (by decide) (by decide) ?_
          refine own_iloadN X50 hx (pc' := 31) rfl (hb hby d_prog_28_method_7_code_30) rfl ?_
          refine own_iret X50 hx hlk hret (hb hby d_prog_28_method_7_code_31) (by decide) (by decide) ?_
          rw [e50]
          exact ⟨by first | (simp only [own_nx, if_pos c21_45, if_pos c21_48, if_pos c21_51]; done) | (simp only [own_nx, if_pos c21_45, if_pos c21_48, if_pos c21_51]; rfl), M50, rfl⟩
        · refine own_icmpT X50 hx (pc' := 30) (hb hby d_prog_28_method_7_code_21) (XT.ii_ne_t c21_51) (by decide) (by decide) ?_
          refine own_iloadN X50 hx (pc' := 31) rfl (hb hby d_prog_28_method_7_code_30) rfl ?_
          refine own_iret X50 hx hlk hret (hb hby d_prog_28_method_7_code_31) (by decide) (by decide) ?_
          rw [e50]
          exact ⟨by first | (simp only [own_nx, if_pos c21_45, if_pos c21_48, if_neg c21_51]; done) | (simp only [own_nx, if_pos c21_45, if_pos c21_48, if_neg c21_51]; rfl), M50, rfl⟩
      · refine own_icmpT X47 hx (pc' := 30) (hb hby d_prog_28_method_7_code_21) (XT.ii_ne_t c21_48) (by decide) (by decide) ?_
        refine own_iloadN X47 hx (pc' := 31) rfl (hb hby d_prog_28_method_7_code_30) rfl ?_
        refine own_iret X47 hx hlk hret (hb hby d_prog_28_method_7_code_31) (by decide) (by decide) ?_
        rw [e47]
        exact ⟨by first | (simp only [own_nx, if_pos c21_45, if_neg c21_48]; done) | (simp only [own_nx, if_pos c21_45, if_neg c21_48]; rfl), M47, rfl⟩
    · refine own_icmpT X44 hx (pc' := 30) (hb hby d_prog_28_method_7_code_21) (XT.ii_ne_t c21_45) (by decide) (by decide) ?_
      refine own_iloadN X44 hx (pc' := 31) rfl (hb hby d_prog_28_method_7_code_30) rfl ?_
      refine own_iret X44 hx hlk hret (hb hby d_prog_28_method_7_code_31) (by decide) (by decide) ?_
      rw [e44]
      exact ⟨by first | (simp only [own_nx, if_neg c21_45]; done) | (simp only [own_nx, if_neg c21_45]; rfl), M44, rfl⟩
  · refine own_iloadN X0 hx (pc' := 1) rfl (hb hby d_prog_28_method_7_code_0) rfl ?_
    refine own_istoreN X0 hx (Ls' := #[.val (.ref a1), .val (.int (5 : Int32)), .val (.int (3 : Int32)), .val (.int (3 : Int32))]) (pc' := 2) rfl (hb hby d_prog_28_method_7_code_1) rfl ?_
    refine own_iloadN X0 hx (pc' := 3) rfl (hb hby d_prog_28_method_7_code_2) rfl ?_
    refine own_iloadN X0 hx (pc' := 4) rfl (hb hby d_prog_28_method_7_code_3) rfl ?_
    refine own_icmpF X0 hx (pc' := 7) rfl (hb hby d_prog_28_method_7_code_4) (XT.ii_ge_f (by decide)) ?_
    refine own_aloadN X0 hx (pc' := 8) rfl (hb hby d_prog_28_method_7_code_7) rfl rfl ?_
    refine own_iloadN X0 hx (pc' := 9) rfl (hb hby d_prog_28_method_7_code_8) rfl ?_
    refine own_ldI X0 hx hZ e0 I0 (k := 3) (by decide) (by decide) (by decide) (v := (.int t3)) hf.2.2.2.1 (pc' := 10) rfl (hb hby d_prog_28_method_7_code_9) ?_
    refine own_callS X0 hx hZ (y := (⟨"com/example/rhoquery/rhoquery/InstanceGraph", "isForward", "(I)Z"⟩ : MethodName)) hown (hw _ (List.mem_of_getElem? (i := 15) rfl)) (hw _ (List.mem_of_getElem? (i := 16) rfl)) (hw _ (List.mem_of_getElem? (i := 17) rfl)) (hw _ (List.mem_of_getElem? (i := 18) rfl))  (by decide) (rm_fwd l Z a0 hw [] t3 h0 n0 Z0) (by decide) (W := 0) (by decide) (by decide) (by decide) e0 (by rw [hml]; rfl) (argsL := [(.int t3)]) (rest := []) rfl (lenOf pd__I_Z rfl) rfl (Nat.le_of_eq rfl) (pc' := 13) rfl (hb hby d_prog_28_method_7_code_10) ?_
    rintro _ T52 L52 X52 ⟨rfl, N52, e52⟩
    have M52 := Fr.app N0 N52
    show own_Goes p e below T52 (mkF m 13 #[.val (.ref a1), .val (.int (5 : Int32)), .val (.int (3 : Int32)), .val (.int (3 : Int32))] [(.int (own_fwd t3))]) _
    refine own_aloadN X52 hx (pc' := 14) rfl (hb hby d_prog_28_method_7_code_13) rfl rfl ?_
    refine own_iloadN X52 hx (pc' := 15) rfl (hb hby d_prog_28_method_7_code_14) rfl ?_
    refine own_iconst X52 hx (v := (1 : Int32)) (pc' := 16) rfl (hb hby d_prog_28_method_7_code_15) rfl ?_
    refine own_isub X52 hx (v := (2 : Int32)) (pc' := 17) rfl (hb hby d_prog_28_method_7_code_16) (by decide) ?_
    refine own_ldI X52 hx hZ e52 I0 (k := 2) (by decide) (by decide) (by decide) (v := (.int t2)) hf.2.2.1 (pc' := 18) rfl (hb hby d_prog_28_method_7_code_17) ?_
    refine own_callS X52 hx hZ (y := (⟨"com/example/rhoquery/rhoquery/InstanceGraph", "isForward", "(I)Z"⟩ : MethodName)) hown (hw _ (List.mem_of_getElem? (i := 15) rfl)) (hw _ (List.mem_of_getElem? (i := 16) rfl)) (hw _ (List.mem_of_getElem? (i := 17) rfl)) (hw _ (List.mem_of_getElem? (i := 18) rfl))  (by decide) (rm_fwd l Z a0 hw [] t2 h0 n0 Z0) (by decide) (W := 1) (by decide) (by decide) (by decide) e52 (by rw [hml]; rfl) (argsL := [(.int t2)]) (rest := [(.int (own_fwd t3))]) rfl (lenOf pd__I_Z rfl) rfl (Nat.le_of_eq rfl) (pc' := 21) rfl (hb hby d_prog_28_method_7_code_18) ?_
    rintro _ T53 L53 X53 ⟨rfl, N53, e53⟩
    have M53 := Fr.app M52 N53
    show own_Goes p e below T53 (mkF m 21 #[.val (.ref a1), .val (.int (5 : Int32)), .val (.int (3 : Int32)), .val (.int (3 : Int32))] [(.int (own_fwd t2)), (.int (own_fwd t3))]) _
    by_cases c21_54 : (own_fwd t3) = (own_fwd t2)
    · refine own_icmpF X53 hx (pc' := 24) rfl (hb hby d_prog_28_method_7_code_21) (XT.ii_ne_f c21_54) ?_
      refine own_iinc X53 hx (v := (4 : Int32)) (Ls' := #[.val (.ref a1), .val (.int (5 : Int32)), .val (.int (3 : Int32)), .val (.int (4 : Int32))]) (pc' := 27) rfl (hb hby d_prog_28_method_7_code_24) rfl (by decide) rfl ?_
      refine own_goto X53 hx (pc' := 2) (hb hby d_prog_28_method_7_code_27) (by decide) (by decide) ?_
      refine own_iloadN X53 hx (pc' := 3) rfl (hb hby d_prog_28_method_7_code_2) rfl ?_
      refine own_iloadN X53 hx (pc' := 4) rfl (hb hby d_prog_28_method_7_code_3) rfl ?_
      refine own_icmpF X53 hx (pc' := 7) rfl (hb hby d_prog_28_method_7_code_4) (XT.ii_ge_f (by decide)) ?_
      refine own_aloadN X53 hx (pc' := 8) rfl (hb hby d_prog_28_method_7_code_7) rfl rfl ?_
      refine own_iloadN X53 hx (pc' := 9) rfl (hb hby d_prog_28_method_7_code_8) rfl ?_
      refine own_ldI X53 hx hZ e53 I0 (k := 4) (by decide) (by decide) (by decide) (v := (.int t4)) hf.2.2.2.2 (pc' := 10) rfl (hb hby d_prog_28_method_7_code_9) ?_
      refine own_callS X53 hx hZ (y := (⟨"com/example/rhoquery/rhoquery/InstanceGraph", "isForward", "(I)Z"⟩ : MethodName)) hown (hw _ (List.mem_of_getElem? (i := 15) rfl)) (hw _ (List.mem_of_getElem? (i := 16) rfl)) (hw _ (List.mem_of_getElem? (i := 17) rfl)) (hw _ (List.mem_of_getElem? (i := 18) rfl))  (by decide) (rm_fwd l Z a0 hw [] t4 h0 n0 Z0) (by decide) (W := 0) (by decide) (by decide) (by decide) e53 (by rw [hml]; rfl) (argsL := [(.int t4)]) (rest := []) rfl (lenOf pd__I_Z rfl) rfl (Nat.le_of_eq rfl) (pc' := 13) rfl (hb hby d_prog_28_method_7_code_10) ?_
      rintro _ T55 L55 X55 ⟨rfl, N55, e55⟩
      have M55 := Fr.app M53 N55
      show own_Goes p e below T55 (mkF m 13 #[.val (.ref a1), .val (.int (5 : Int32)), .val (.int (3 : Int32)), .val (.int (4 : Int32))] [(.int (own_fwd t4))]) _
      refine own_aloadN X55 hx (pc' := 14) rfl (hb hby d_prog_28_method_7_code_13) rfl rfl ?_
      refine own_iloadN X55 hx (pc' := 15) rfl (hb hby d_prog_28_method_7_code_14) rfl ?_
      refine own_iconst X55 hx (v := (1 : Int32)) (pc' := 16) rfl (hb hby d_prog_28_method_7_code_15) rfl ?_
      refine own_isub X55 hx (v := (3 : Int32)) (pc' := 17) rfl (hb hby d_prog_28_method_7_code_16) (by decide) ?_
      refine own_ldI X55 hx hZ e55 I0 (k := 3) (by decide) (by decide) (by decide) (v := (.int t3)) hf.2.2.2.1 (pc' := 18) rfl (hb hby d_prog_28_method_7_code_17) ?_
      refine own_callS X55 hx hZ (y := (⟨"com/example/rhoquery/rhoquery/InstanceGraph", "isForward", "(I)Z"⟩ : MethodName)) hown (hw _ (List.mem_of_getElem? (i := 15) rfl)) (hw _ (List.mem_of_getElem? (i := 16) rfl)) (hw _ (List.mem_of_getElem? (i := 17) rfl)) (hw _ (List.mem_of_getElem? (i := 18) rfl))  (by decide) (rm_fwd l Z a0 hw [] t3 h0 n0 Z0) (by decide) (W := 1) (by decide) (by decide) (by decide) e55 (by rw [hml]; rfl) (argsL := [(.int t3)]) (rest := [(.int (own_fwd t4))]) rfl (lenOf pd__I_Z rfl) rfl (Nat.le_of_eq rfl) (pc' := 21) rfl (hb hby d_prog_28_method_7_code_18) ?_
      rintro _ T56 L56 X56 ⟨rfl, N56, e56⟩
      have M56 := Fr.app M55 N56
      show own_Goes p e below T56 (mkF m 21 #[.val (.ref a1), .val (.int (5 : Int32)), .val (.int (3 : Int32)), .val (.int (4 : Int32))] [(.int (own_fwd t3)), (.int (own_fwd t4))]) _
      by_cases c21_57 : (own_fwd t4) = (own_fwd t3)
      · refine own_icmpF X56 hx (pc' := 24) rfl (hb hby d_prog_28_method_7_code_21) (XT.ii_ne_f c21_57) ?_
        refine own_iinc X56 hx (v := (5 : Int32)) (Ls' := #[.val (.ref a1), .val (.int (5 : Int32)), .val (.int (3 : Int32)), .val (.int (5 : Int32))]) (pc' := 27) rfl (hb hby d_prog_28_method_7_code_24) rfl (by decide) rfl ?_
        refine own_goto X56 hx (pc' := 2) (hb hby d_prog_28_method_7_code_27) (by decide) (by decide) ?_
        refine own_iloadN X56 hx (pc' := 3) rfl (hb hby d_prog_28_method_7_code_2) rfl ?_
        refine own_iloadN X56 hx (pc' := 4) rfl (hb hby d_prog_28_method_7_code_3) rfl ?_
        refine own_icmpT X56 hx (pc' := 30) (hb hby d_prog_28_method_7_code_4) (XT.ii_ge_t (by decide)) (by decide) (by decide) ?_
        refine own_iloadN X56 hx (pc' := 31) rfl (hb hby d_prog_28_method_7_code_30) rfl ?_
        refine own_iret X56 hx hlk hret (hb hby d_prog_28_method_7_code_31) (by decide) (by decide) ?_
        rw [e56]
        exact ⟨by first | (simp only [own_nx, if_pos c21_54, if_pos c21_57]; done) | (simp only [own_nx, if_pos c21_54, if_pos c21_57]; rfl), M56, rfl⟩
      · refine own_icmpT X56 hx (pc' := 30) (hb hby d_prog_28_method_7_code_21) (XT.ii_ne_t c21_57) (by decide) (by decide) ?_
        refine own_iloadN X56 hx (pc' := 31) rfl (hb hby d_prog_28_method_7_code_30) rfl ?_
        refine own_iret X56 hx hlk hret (hb hby d_prog_28_method_7_code_31) (by decide) (by decide) ?_
        rw [e56]
        exact ⟨by first | (simp only [own_nx, if_pos c21_54, if_neg c21_57]; done) | (simp only [own_nx, if_pos c21_54, if_neg c21_57]; rfl), M56, rfl⟩
    · refine own_icmpT X53 hx (pc' := 30) (hb hby d_prog_28_method_7_code_21) (XT.ii_ne_t c21_54) (by decide) (by decide) ?_
      refine own_iloadN X53 hx (pc' := 31) rfl (hb hby d_prog_28_method_7_code_30) rfl ?_
      refine own_iret X53 hx hlk hret (hb hby d_prog_28_method_7_code_31) (by decide) (by decide) ?_
      rw [e53]
      exact ⟨by first | (simp only [own_nx, if_neg c21_54]; done) | (simp only [own_nx, if_neg c21_54]; rfl), M53, rfl⟩
  · refine own_iloadN X0 hx (pc' := 1) rfl (hb hby d_prog_28_method_7_code_0) rfl ?_
    refine own_istoreN X0 hx (Ls' := #[.val (.ref a1), .val (.int (5 : Int32)), .val (.int (4 : Int32)), .val (.int (4 : Int32))]) (pc' := 2) rfl (hb hby d_prog_28_method_7_code_1) rfl ?_
    refine own_iloadN X0 hx (pc' := 3) rfl (hb hby d_prog_28_method_7_code_2) rfl ?_
    refine own_iloadN X0 hx (pc' := 4) rfl (hb hby d_prog_28_method_7_code_3) rfl ?_
    refine own_icmpF X0 hx (pc' := 7) rfl (hb hby d_prog_28_method_7_code_4) (XT.ii_ge_f (by decide)) ?_
    refine own_aloadN X0 hx (pc' := 8) rfl (hb hby d_prog_28_method_7_code_7) rfl rfl ?_
    refine own_iloadN X0 hx (pc' := 9) rfl (hb hby d_prog_28_method_7_code_8) rfl ?_
    refine own_ldI X0 hx hZ e0 I0 (k := 4) (by decide) (by decide) (by decide) (v := (.int t4)) hf.2.2.2.2 (pc' := 10) rfl (hb hby d_prog_28_method_7_code_9) ?_
    refine own_callS X0 hx hZ (y := (⟨"com/example/rhoquery/rhoquery/InstanceGraph", "isForward", "(I)Z"⟩ : MethodName)) hown (hw _ (List.mem_of_getElem? (i := 15) rfl)) (hw _ (List.mem_of_getElem? (i := 16) rfl)) (hw _ (List.mem_of_getElem? (i := 17) rfl)) (hw _ (List.mem_of_getElem? (i := 18) rfl))  (by decide) (rm_fwd l Z a0 hw [] t4 h0 n0 Z0) (by decide) (W := 0) (by decide) (by decide) (by decide) e0 (by rw [hml]; rfl) (argsL := [(.int t4)]) (rest := []) rfl (lenOf pd__I_Z rfl) rfl (Nat.le_of_eq rfl) (pc' := 13) rfl (hb hby d_prog_28_method_7_code_10) ?_
    rintro _ T58 L58 X58 ⟨rfl, N58, e58⟩
    have M58 := Fr.app N0 N58
    show own_Goes p e below T58 (mkF m 13 #[.val (.ref a1), .val (.int (5 : Int32)), .val (.int (4 : Int32)), .val (.int (4 : Int32))] [(.int (own_fwd t4))]) _
    refine own_aloadN X58 hx (pc' := 14) rfl (hb hby d_prog_28_method_7_code_13) rfl rfl ?_
    refine own_iloadN X58 hx (pc' := 15) rfl (hb hby d_prog_28_method_7_code_14) rfl ?_
    refine own_iconst X58 hx (v := (1 : Int32)) (pc' := 16) rfl (hb hby d_prog_28_method_7_code_15) rfl ?_
    refine own_isub X58 hx (v := (3 : Int32)) (pc' := 17) rfl (hb hby d_prog_28_method_7_code_16) (by decide) ?_
    refine own_ldI X58 hx hZ e58 I0 (k := 3) (by decide) (by decide) (by decide) (v := (.int t3)) hf.2.2.2.1 (pc' := 18) rfl (hb hby d_prog_28_method_7_code_17) ?_
    refine own_callS X58 hx hZ (y := (⟨"com/example/rhoquery/rhoquery/InstanceGraph", "isForward", "(I)Z"⟩ : MethodName)) hown (hw _ (List.mem_of_getElem? (i := 15) rfl)) (hw _ (List.mem_of_getElem? (i := 16) rfl)) (hw _ (List.mem_of_getElem? (i := 17) rfl)) (hw _ (List.mem_of_getElem? (i := 18) rfl))  (by decide) (rm_fwd l Z a0 hw [] t3 h0 n0 Z0) (by decide) (W := 1) (by decide) (by decide) (by decide) e58 (by rw [hml]; rfl) (argsL := [(.int t3)]) (rest := [(.int (own_fwd t4))]) rfl (lenOf pd__I_Z rfl) rfl (Nat.le_of_eq rfl) (pc' := 21) rfl (hb hby d_prog_28_method_7_code_18) ?_
    rintro _ T59 L59 X59 ⟨rfl, N59, e59⟩
    have M59 := Fr.app M58 N59
    show own_Goes p e below T59 (mkF m 21 #[.val (.ref a1), .val (.int (5 : Int32)), .val (.int (4 : Int32)), .val (.int (4 : Int32))] [(.int (own_fwd t3)), (.int (own_fwd t4))]) _
    by_cases c21_60 : (own_fwd t4) = (own_fwd t3)
    · refine own_icmpF X59 hx (pc' := 24) rfl (hb hby d_prog_28_method_7_code_21) (XT.ii_ne_f c21_60) ?_
      refine own_iinc X59 hx (v := (5 : Int32)) (Ls' := #[.val (.ref a1), .val (.int (5 : Int32)), .val (.int (4 : Int32)), .val (.int (5 : Int32))]) (pc' := 27) rfl (hb hby d_prog_28_method_7_code_24) rfl (by decide) rfl ?_
      refine own_goto X59 hx (pc' := 2) (hb hby d_prog_28_method_7_code_27) (by decide) (by decide) ?_
      refine own_iloadN X59 hx (pc' := 3) rfl (hb hby d_prog_28_method_7_code_2) rfl ?_
      refine own_iloadN X59 hx (pc' := 4) rfl (hb hby d_prog_28_method_7_code_3) rfl ?_
      refine own_icmpT X59 hx (pc' := 30) (hb hby d_prog_28_method_7_code_4) (XT.ii_ge_t (by decide)) (by decide) (by decide) ?_
      refine own_iloadN X59 hx (pc' := 31) rfl (hb hby d_prog_28_method_7_code_30) rfl ?_
      refine own_iret X59 hx hlk hret (hb hby d_prog_28_method_7_code_31) (by decide) (by decide) ?_
      rw [e59]
      exact ⟨by first | (simp only [own_nx, if_pos c21_60]; done) | (simp only [own_nx, if_pos c21_60]; rfl), M59, rfl⟩
    · refine own_icmpT X59 hx (pc' := 30) (hb hby d_prog_28_method_7_code_21) (XT.ii_ne_t c21_60) (by decide) (by decide) ?_
      refine own_iloadN X59 hx (pc' := 31) rfl (hb hby d_prog_28_method_7_code_30) rfl ?_
      refine own_iret X59 hx hlk hret (hb hby d_prog_28_method_7_code_31) (by decide) (by decide) ?_
      rw [e59]
      exact ⟨by first | (simp only [own_nx, if_neg c21_60]; done) | (simp only [own_nx, if_neg c21_60]; rfl), M59, rfl⟩
  · refine own_iloadN X0 hx (pc' := 1) rfl (hb hby d_prog_28_method_7_code_0) rfl ?_
    refine own_istoreN X0 hx (Ls' := #[.val (.ref a1), .val (.int (5 : Int32)), .val (.int (5 : Int32)), .val (.int (5 : Int32))]) (pc' := 2) rfl (hb hby d_prog_28_method_7_code_1) rfl ?_
    refine own_iloadN X0 hx (pc' := 3) rfl (hb hby d_prog_28_method_7_code_2) rfl ?_
    refine own_iloadN X0 hx (pc' := 4) rfl (hb hby d_prog_28_method_7_code_3) rfl ?_
    refine own_icmpT X0 hx (pc' := 30) (hb hby d_prog_28_method_7_code_4) (XT.ii_ge_t (by decide)) (by decide) (by decide) ?_
    refine own_iloadN X0 hx (pc' := 31) rfl (hb hby d_prog_28_method_7_code_30) rfl ?_
    refine own_iret X0 hx hlk hret (hb hby d_prog_28_method_7_code_31) (by decide) (by decide) ?_
    rw [e0]
    exact ⟨by first | (simp only [own_nx, ]; done) | (simp only [own_nx, ]; rfl), N0, rfl⟩
theorem ef_rm_of (m : MethodId) (a1 : Addr) (p2 : Int32) : entryFrame m #[(.ref a1), (.int p2)] 3 = mkF m 0 #[.val (.ref a1), .val (.int p2), .unset] [] := by first | (simp [entryFrame, mkF, argsToLocals, Value.category]; done) | rfl
def K_rm_of (f1 : Nat → Value) (t0 : Int32) (t1 : Int32) (t2 : Int32) (t3 : Int32) (t4 : Int32) (aP : Addr) (aJ : Addr) (aC : Addr) (Z : State) (h0 : Heap) (n0 : Nat) (a1 : Addr) (p2 : Int32) (v : Option Value) (h : Heap) (L : List Loc) : Prop := v = some (.ref (own_sel (own_tot p2 t0 t1 t2 t3 t4) aP aJ aC)) ∧ Fr n0 L ∧ h = h0
theorem d_prog_28_method_4_code_0 : decode prog_28_method_4_code 0 = .ok (.aload_n 0, 1) := by decide +kernel
theorem d_prog_28_method_4_code_1 : decode prog_28_method_4_code 1 = .ok (.iload_n 1, 1) := by decide +kernel
theorem d_prog_28_method_4_code_2 : decode prog_28_method_4_code 2 = .ok (.iconst 1, 1) := by decide +kernel
theorem d_prog_28_method_4_code_3 : decode prog_28_method_4_code 3 = .ok (.invokestatic 32, 3) := by decide +kernel
theorem pd___III_I : parseMethodDescriptor "([III)I" = some ⟨[(.array .int), .int, .int], some .int⟩ := by decide +kernel
theorem d_prog_28_method_4_code_6 : decode prog_28_method_4_code 6 = .ok (.istore_n 2, 1) := by decide +kernel
theorem d_prog_28_method_4_code_7 : decode prog_28_method_4_code 7 = .ok (.iload_n 2, 1) := by decide +kernel
theorem d_prog_28_method_4_code_8 : decode prog_28_method_4_code 8 = .ok (.iload_n 1, 1) := by decide +kernel
theorem d_prog_28_method_4_code_9 : decode prog_28_method_4_code 9 = .ok (.if_icmp .ne 7, 3) := by decide +kernel
theorem d_prog_28_method_4_code_12 : decode prog_28_method_4_code 12 = .ok (.getstatic 3, 3) := by decide +kernel
theorem d_prog_28_method_4_code_15 : decode prog_28_method_4_code 15 = .ok (.areturn, 1) := by decide +kernel
theorem d_prog_28_method_4_code_16 : decode prog_28_method_4_code 16 = .ok (.aload_n 0, 1) := by decide +kernel
theorem d_prog_28_method_4_code_17 : decode prog_28_method_4_code 17 = .ok (.iload_n 1, 1) := by decide +kernel
theorem d_prog_28_method_4_code_18 : decode prog_28_method_4_code 18 = .ok (.iload_n 2, 1) := by decide +kernel
theorem d_prog_28_method_4_code_19 : decode prog_28_method_4_code 19 = .ok (.iconst 1, 1) := by decide +kernel
theorem d_prog_28_method_4_code_20 : decode prog_28_method_4_code 20 = .ok (.iadd, 1) := by decide +kernel
theorem d_prog_28_method_4_code_21 : decode prog_28_method_4_code 21 = .ok (.invokestatic 32, 3) := by decide +kernel
theorem d_prog_28_method_4_code_24 : decode prog_28_method_4_code 24 = .ok (.iload_n 1, 1) := by decide +kernel
theorem d_prog_28_method_4_code_25 : decode prog_28_method_4_code 25 = .ok (.if_icmp .ne 9, 3) := by decide +kernel
theorem d_prog_28_method_4_code_28 : decode prog_28_method_4_code 28 = .ok (.getstatic 7, 3) := by decide +kernel
theorem d_prog_28_method_4_code_31 : decode prog_28_method_4_code 31 = .ok (.goto 6, 3) := by decide +kernel
theorem d_prog_28_method_4_code_37 : decode prog_28_method_4_code 37 = .ok (.areturn, 1) := by decide +kernel
theorem d_prog_28_method_4_code_34 : decode prog_28_method_4_code 34 = .ok (.getstatic 10, 3) := by decide +kernel
set_option maxRecDepth 65536 in
set_option maxHeartbeats 40000000 in
theorem rm_of (l : Launch) (Z : State) (a0 : Array Value) (hw : ∀ d ∈ tables_1, d.before a0 Z = true) (ws : List Jvm.Cond) (f1 : Nat → Value) (t0 : Int32) (t1 : Int32) (t2 : Int32) (t3 : Int32) (t4 : Int32) (aP : Addr) (aJ : Addr) (aC : Addr) (a1 : Addr) (p2 : Int32) (h0 : Heap) (n0 : Nat) (Z0 : n0 ≤ h0.size) (I0 : own_Arr Z h0 a1 .int 5 f1) (I1 : Sta Z h0 "com/example/rhoquery/rhoquery/PathKind" "PATH" "Lcom/example/rhoquery/rhoquery/PathKind;" (.ref aP)) (I2 : Sta Z h0 "com/example/rhoquery/rhoquery/PathKind" "JOIN" "Lcom/example/rhoquery/rhoquery/PathKind;" (.ref aJ)) (I3 : Sta Z h0 "com/example/rhoquery/rhoquery/PathKind" "CONNECTION" "Lcom/example/rhoquery/rhoquery/PathKind;" (.ref aC)) (hf : f1 0 = .int t0 ∧ f1 1 = .int t1 ∧ f1 2 = .int t2 ∧ f1 3 = .int t3 ∧ f1 4 = .int t4) (hn : p2 = (1 : Int32) ∨ p2 = (2 : Int32) ∨ p2 = (3 : Int32) ∨ p2 = (4 : Int32) ∨ p2 = (5 : Int32)) :
    MetFree l (⟨"com/example/rhoquery/rhoquery/PathKind", "of", "([II)Lcom/example/rhoquery/rhoquery/PathKind;"⟩ : MethodName) (head1 (Jvm.Cond.code (⟨"com/example/rhoquery/rhoquery/PathKind", "of", "([II)Lcom/example/rhoquery/rhoquery/PathKind;"⟩ : MethodName) prog_28_method_4_code 3 (some (.object "com/example/rhoquery/rhoquery/PathKind")) :: ws) ({ frames := 2, cells := 0, slots := 0, locals := 28 } : Room)) (fun a U => a = #[(.ref a1), (.int p2)] ∧ Z.Warmed39 U.vm ∧ U.heap = h0) (fun _ _ _ _ _ => True) (fun _ U o U' => ∃ v L, o = .returned v ∧ (K_rm_of f1 t0 t1 t2 t3 t4 aP aJ aC Z h0 n0 a1 p2) v U'.heap L ∧ FrameEnd U o U' L ({ frames := 2, cells := 0, slots := 0, locals := 28 } : Room).cells ({ frames := 2, cells := 0, slots := 0, locals := 28 } : Room).slots) := by
  refine own_body (plainFor_of_name pn_com_example_rhoquery_rhoquery_PathKind) ?_
  intro p e s m below meth c s₁ hx hby hml hown hnm hret hlk hZ X0 e0
  have hown : s.vm.findClass "com/example/rhoquery/rhoquery/PathKind" = some m.cls := hown
  have N0 := Fr.nil n0
  rw [ef_rm_of m a1 p2]
  rcases hn with rfl | rfl | rfl | rfl | rfl
  · refine own_aloadN X0 hx (pc' := 1) rfl (hb hby d_prog_28_method_4_code_0) rfl rfl ?_
    refine own_iloadN X0 hx (pc' := 2) rfl (hb hby d_prog_28_method_4_code_1) rfl ?_
    refine own_iconst X0 hx (v := (1 : Int32)) (pc' := 3) rfl (hb hby d_prog_28_method_4_code_2) rfl ?_
    refine own_callS X0 hx hZ (y := (⟨"com/example/rhoquery/rhoquery/PathKind", "nextTurn", "([III)I"⟩ : MethodName)) hown (hw _ (List.mem_of_getElem? (i := 12) rfl)) (hw _ (List.mem_of_getElem? (i := 13) rfl)) (hw _ (List.mem_of_getElem? (i := 7) rfl)) (hw _ (List.mem_of_getElem? (i := 14) rfl))  (by decide) (rm_next l Z a0 hw [] f1 t0 t1 t2 t3 t4 t0 [] 1 a1 (1 : Int32) (1 : Int32) h0 n0 Z0 I0 hf (Or.inl ⟨rfl, rfl, rfl, rfl, rfl⟩)) (by decide) (W := 0) (by decide) (by decide) (by decide) e0 (by rw [hml]; rfl) (argsL := [(.ref a1), (.int (1 : Int32)), (.int (1 : Int32))]) (rest := []) rfl (lenOf pd___III_I rfl) rfl (Nat.le_of_eq rfl) (pc' := 6) rfl (hb hby d_prog_28_method_4_code_3) ?_
    rintro _ T1 L1 X1 ⟨rfl, N1, e1⟩
    have M1 := Fr.app N0 N1
    show own_Goes p e below T1 (mkF m 6 #[.val (.ref a1), .val (.int (1 : Int32)), .unset] [(.int (Int32.ofNat (own_nx t0 [] 1)))]) _
    rw [show (Int32.ofNat (own_nx t0 [] 1)) = (1 : Int32) from rfl]
    refine own_istoreN X1 hx (Ls' := #[.val (.ref a1), .val (.int (1 : Int32)), .val (.int (1 : Int32))]) (pc' := 7) rfl (hb hby d_prog_28_method_4_code_6) rfl ?_
    refine own_iloadN X1 hx (pc' := 8) rfl (hb hby d_prog_28_method_4_code_7) rfl ?_
    refine own_iloadN X1 hx (pc' := 9) rfl (hb hby d_prog_28_method_4_code_8) rfl ?_
    refine own_icmpF X1 hx (pc' := 12) rfl (hb hby d_prog_28_method_4_code_9) (XT.ii_ne_f (by decide)) ?_
    refine own_getS X1 hx hZ hown (hw _ (List.mem_of_getElem? (i := 25) rfl)) Via.refl e1 I1 (pc' := 15) rfl (hb hby d_prog_28_method_4_code_12) ?_
    intro T2 X2 e2
    refine own_aret X2 hx hlk hret rfl rfl (hb hby d_prog_28_method_4_code_15) (by decide) (by decide) ?_
    rw [e2]
    have hT : own_tot (1 : Int32) t0 t1 t2 t3 t4 = (0 : Int32) := by first | (simp only [own_tot, own_turn]; done) | (simp only [own_tot, own_turn]; rfl)
    exact ⟨by rw [hT]; rfl, M1, rfl⟩
  · refine own_aloadN X0 hx (pc' := 1) rfl (hb hby d_prog_28_method_4_code_0) rfl rfl ?_
    refine own_iloadN X0 hx (pc' := 2) rfl (hb hby d_prog_28_method_4_code_1) rfl ?_
    refine own_iconst X0 hx (v := (1 : Int32)) (pc' := 3) rfl (hb hby d_prog_28_method_4_code_2) rfl ?_
    refine own_callS X0 hx hZ (y := (⟨"com/example/rhoquery/rhoquery/PathKind", "nextTurn", "([III)I"⟩ : MethodName)) hown (hw _ (List.mem_of_getElem? (i := 12) rfl)) (hw _ (List.mem_of_getElem? (i := 13) rfl)) (hw _ (List.mem_of_getElem? (i := 7) rfl)) (hw _ (List.mem_of_getElem? (i := 14) rfl))  (by decide) (rm_next l Z a0 hw [] f1 t0 t1 t2 t3 t4 t0 [t1] 1 a1 (2 : Int32) (1 : Int32) h0 n0 Z0 I0 hf (Or.inr (Or.inl ⟨rfl, rfl, rfl, rfl, rfl⟩))) (by decide) (W := 0) (by decide) (by decide) (by decide) e0 (by rw [hml]; rfl) (argsL := [(.ref a1), (.int (2 : Int32)), (.int (1 : Int32))]) (rest := []) rfl (lenOf pd___III_I rfl) rfl (Nat.le_of_eq rfl) (pc' := 6) rfl (hb hby d_prog_28_method_4_code_3) ?_
    rintro _ T3 L3 X3 ⟨rfl, N3, e3⟩
    have M3 := Fr.app N0 N3
    show own_Goes p e below T3 (mkF m 6 #[.val (.ref a1), .val (.int (2 : Int32)), .unset] [(.int (Int32.ofNat (own_nx t0 [t1] 1)))]) _
    by_cases e1_4 : (own_fwd t1) = (own_fwd t0)
    · rw [show (Int32.ofNat (own_nx t0 [t1] 1)) = (2 : Int32) from by first | (simp only [own_nx, if_pos e1_4]; done) | (simp only [own_nx, if_pos e1_4]; rfl)]
      refine own_istoreN X3 hx (Ls' := #[.val (.ref a1), .val (.int (2 : Int32)), .val (.int (2 : Int32))]) (pc' := 7) rfl (hb hby d_prog_28_method_4_code_6) rfl ?_
      refine own_iloadN X3 hx (pc' := 8) rfl (hb hby d_prog_28_method_4_code_7) rfl ?_
      refine own_iloadN X3 hx (pc' := 9) rfl (hb hby d_prog_28_method_4_code_8) rfl ?_
      refine own_icmpF X3 hx (pc' := 12) rfl (hb hby d_prog_28_method_4_code_9) (XT.ii_ne_f (by decide)) ?_
      refine own_getS X3 hx hZ hown (hw _ (List.mem_of_getElem? (i := 25) rfl)) Via.refl e3 I1 (pc' := 15) rfl (hb hby d_prog_28_method_4_code_12) ?_
      intro T5 X5 e5
      refine own_aret X5 hx hlk hret rfl rfl (hb hby d_prog_28_method_4_code_15) (by decide) (by decide) ?_
      rw [e5]
      have hT : own_tot (2 : Int32) t0 t1 t2 t3 t4 = (0 : Int32) := by first | (simp only [own_tot, own_turn, if_pos e1_4]; done) | (simp only [own_tot, own_turn, if_pos e1_4]; rfl)
      exact ⟨by rw [hT]; rfl, M3, rfl⟩
    · rw [show (Int32.ofNat (own_nx t0 [t1] 1)) = (1 : Int32) from by first | (simp only [own_nx, if_neg e1_4]; done) | (simp only [own_nx, if_neg e1_4]; rfl)]
      refine own_istoreN X3 hx (Ls' := #[.val (.ref a1), .val (.int (2 : Int32)), .val (.int (1 : Int32))]) (pc' := 7) rfl (hb hby d_prog_28_method_4_code_6) rfl ?_
      refine own_iloadN X3 hx (pc' := 8) rfl (hb hby d_prog_28_method_4_code_7) rfl ?_
      refine own_iloadN X3 hx (pc' := 9) rfl (hb hby d_prog_28_method_4_code_8) rfl ?_
      refine own_icmpT X3 hx (pc' := 16) (hb hby d_prog_28_method_4_code_9) (XT.ii_ne_t (by decide)) (by decide) (by decide) ?_
      refine own_aloadN X3 hx (pc' := 17) rfl (hb hby d_prog_28_method_4_code_16) rfl rfl ?_
      refine own_iloadN X3 hx (pc' := 18) rfl (hb hby d_prog_28_method_4_code_17) rfl ?_
      refine own_iloadN X3 hx (pc' := 19) rfl (hb hby d_prog_28_method_4_code_18) rfl ?_
      refine own_iconst X3 hx (v := (1 : Int32)) (pc' := 20) rfl (hb hby d_prog_28_method_4_code_19) rfl ?_
      refine own_iadd X3 hx (v := (2 : Int32)) (pc' := 21) rfl (hb hby d_prog_28_method_4_code_20) (by decide) ?_
      refine own_callS X3 hx hZ (y := (⟨"com/example/rhoquery/rhoquery/PathKind", "nextTurn", "([III)I"⟩ : MethodName)) hown (hw _ (List.mem_of_getElem? (i := 12) rfl)) (hw _ (List.mem_of_getElem? (i := 13) rfl)) (hw _ (List.mem_of_getElem? (i := 7) rfl)) (hw _ (List.mem_of_getElem? (i := 14) rfl))  (by decide) (rm_next l Z a0 hw [] f1 t0 t1 t2 t3 t4 t1 [] 2 a1 (2 : Int32) (2 : Int32) h0 n0 Z0 I0 hf (Or.inr (Or.inr (Or.inl ⟨rfl, rfl, rfl, rfl, rfl⟩)))) (by decide) (W := 0) (by decide) (by decide) (by decide) e3 (by rw [hml]; rfl) (argsL := [(.ref a1), (.int (2 : Int32)), (.int (2 : Int32))]) (rest := []) rfl (lenOf pd___III_I rfl) rfl (Nat.le_of_eq rfl) (pc' := 24) rfl (hb hby d_prog_28_method_4_code_21) ?_
      rintro _ T6 L6 X6 ⟨rfl, N6, e6⟩
      have M6 := Fr.app M3 N6
      show own_Goes p e below T6 (mkF m 24 #[.val (.ref a1), .val (.int (2 : Int32)), .val (.int (1 : Int32))] [(.int (Int32.ofNat (own_nx t1 [] 2)))]) _
      rw [show (Int32.ofNat (own_nx t1 [] 2)) = (2 : Int32) from rfl]
      refine own_iloadN X6 hx (pc' := 25) rfl (hb hby d_prog_28_method_4_code_24) rfl ?_
      refine own_icmpF X6 hx (pc' := 28) rfl (hb hby d_prog_28_method_4_code_25) (XT.ii_ne_f (by decide)) ?_
      refine own_getS X6 hx hZ hown (hw _ (List.mem_of_getElem? (i := 22) rfl)) Via.refl e6 I2 (pc' := 31) rfl (hb hby d_prog_28_method_4_code_28) ?_
      intro T7 X7 e7
      refine own_goto X7 hx (pc' := 37) (hb hby d_prog_28_method_4_code_31) (by decide) (by decide) ?_
      refine own_aret X7 hx hlk hret rfl rfl (hb hby d_prog_28_method_4_code_37) (by decide) (by decide) ?_
      rw [e7]
      have hT : own_tot (2 : Int32) t0 t1 t2 t3 t4 = (1 : Int32) := by first | (simp only [own_tot, own_turn, if_neg e1_4]; done) | (simp only [own_tot, own_turn, if_neg e1_4]; rfl)
      exact ⟨by rw [hT]; rfl, M6, rfl⟩
  · refine own_aloadN X0 hx (pc' := 1) rfl (hb hby d_prog_28_method_4_code_0) rfl rfl ?_
    refine own_iloadN X0 hx (pc' := 2) rfl (hb hby d_prog_28_method_4_code_1) rfl ?_
    refine own_iconst X0 hx (v := (1 : Int32)) (pc' := 3) rfl (hb hby d_prog_28_method_4_code_2) rfl ?_
    refine own_callS X0 hx hZ (y := (⟨"com/example/rhoquery/rhoquery/PathKind", "nextTurn", "([III)I"⟩ : MethodName)) hown (hw _ (List.mem_of_getElem? (i := 12) rfl)) (hw _ (List.mem_of_getElem? (i := 13) rfl)) (hw _ (List.mem_of_getElem? (i := 7) rfl)) (hw _ (List.mem_of_getElem? (i := 14) rfl))  (by decide) (rm_next l Z a0 hw [] f1 t0 t1 t2 t3 t4 t0 [t1, t2] 1 a1 (3 : Int32) (1 : Int32) h0 n0 Z0 I0 hf (Or.inr (Or.inr (Or.inr (Or.inl ⟨rfl, rfl, rfl, rfl, rfl⟩))))) (by decide) (W := 0) (by decide) (by decide) (by decide) e0 (by rw [hml]; rfl) (argsL := [(.ref a1), (.int (3 : Int32)), (.int (1 : Int32))]) (rest := []) rfl (lenOf pd___III_I rfl) rfl (Nat.le_of_eq rfl) (pc' := 6) rfl (hb hby d_prog_28_method_4_code_3) ?_
    rintro _ T8 L8 X8 ⟨rfl, N8, e8⟩
    have M8 := Fr.app N0 N8
    show own_Goes p e below T8 (mkF m 6 #[.val (.ref a1), .val (.int (3 : Int32)), .unset] [(.int (Int32.ofNat (own_nx t0 [t1, t2] 1)))]) _
    by_cases e1_9 : (own_fwd t1) = (own_fwd t0)
    · by_cases e2_10 : (own_fwd t2) = (own_fwd t1)
      · rw [show (Int32.ofNat (own_nx t0 [t1, t2] 1)) = (3 : Int32) from by first | (simp only [own_nx, if_pos e1_9, if_pos e2_10]; done) | (simp only [own_nx, if_pos e1_9, if_pos e2_10]; rfl)]
        refine own_istoreN X8 hx (Ls' := #[.val (.ref a1), .val (.int (3 : Int32)), .val (.int (3 : Int32))]) (pc' := 7) rfl (hb hby d_prog_28_method_4_code_6) rfl ?_
        refine own_iloadN X8 hx (pc' := 8) rfl (hb hby d_prog_28_method_4_code_7) rfl ?_
        refine own_iloadN X8 hx (pc' := 9) rfl (hb hby d_prog_28_method_4_code_8) rfl ?_
        refine own_icmpF X8 hx (pc' := 12) rfl (hb hby d_prog_28_method_4_code_9) (XT.ii_ne_f (by decide)) ?_
        refine own_getS X8 hx hZ hown (hw _ (List.mem_of_getElem? (i := 25) rfl)) Via.refl e8 I1 (pc' := 15) rfl (hb hby d_prog_28_method_4_code_12) ?_
        intro T11 X11 e11
        refine own_aret X11 hx hlk hret rfl rfl (hb hby d_prog_28_method_4_code_15) (by decide) (by decide) ?_
        rw [e11]
        have hT : own_tot (3 : Int32) t0 t1 t2 t3 t4 = (0 : Int32) := by first | (simp only [own_tot, own_turn, if_pos e1_9, if_pos e2_10]; done) | (simp only [own_tot, own_turn, if_pos e1_9, if_pos e2_10]; rfl)
        exact ⟨by rw [hT]; rfl, M8, rfl⟩
      · rw [show (Int32.ofNat (own_nx t0 [t1, t2] 1)) = (2 : Int32) from by first | (simp only [own_nx, if_pos e1_9, if_neg e2_10]; done) | (simp only [own_nx, if_pos e1_9, if_neg e2_10]; rfl)]
        refine own_istoreN X8 hx (Ls' := #[.val (.ref a1), .val (.int (3 : Int32)), .val (.int (2 : Int32))]) (pc' := 7) rfl (hb hby d_prog_28_method_4_code_6) rfl ?_
        refine own_iloadN X8 hx (pc' := 8) rfl (hb hby d_prog_28_method_4_code_7) rfl ?_
        refine own_iloadN X8 hx (pc' := 9) rfl (hb hby d_prog_28_method_4_code_8) rfl ?_
        refine own_icmpT X8 hx (pc' := 16) (hb hby d_prog_28_method_4_code_9) (XT.ii_ne_t (by decide)) (by decide) (by decide) ?_
        refine own_aloadN X8 hx (pc' := 17) rfl (hb hby d_prog_28_method_4_code_16) rfl rfl ?_
        refine own_iloadN X8 hx (pc' := 18) rfl (hb hby d_prog_28_method_4_code_17) rfl ?_
        refine own_iloadN X8 hx (pc' := 19) rfl (hb hby d_prog_28_method_4_code_18) rfl ?_
        refine own_iconst X8 hx (v := (1 : Int32)) (pc' := 20) rfl (hb hby d_prog_28_method_4_code_19) rfl ?_
        refine own_iadd X8 hx (v := (3 : Int32)) (pc' := 21) rfl (hb hby d_prog_28_method_4_code_20) (by decide) ?_
        refine own_callS X8 hx hZ (y := (⟨"com/example/rhoquery/rhoquery/PathKind", "nextTurn", "([III)I"⟩ : MethodName)) hown (hw _ (List.mem_of_getElem? (i := 12) rfl)) (hw _ (List.mem_of_getElem? (i := 13) rfl)) (hw _ (List.mem_of_getElem? (i := 7) rfl)) (hw _ (List.mem_of_getElem? (i := 14) rfl))  (by decide) (rm_next l Z a0 hw [] f1 t0 t1 t2 t3 t4 t2 [] 3 a1 (3 : Int32) (3 : Int32) h0 n0 Z0 I0 hf (Or.inr (Or.inr (Or.inr (Or.inr (Or.inr (Or.inl ⟨rfl, rfl, rfl, rfl, rfl⟩))))))) (by decide) (W := 0) (by decide) (by decide) (by decide) e8 (by rw [hml]; rfl) (argsL := [(.ref a1), (.int (3 : Int32)), (.int (3 : Int32))]) (rest := []) rfl (lenOf pd___III_I rfl) rfl (Nat.le_of_eq rfl) (pc' := 24) rfl (hb hby d_prog_28_method_4_code_21) ?_
        rintro _ T12 L12 X12 ⟨rfl, N12, e12⟩
        have M12 := Fr.app M8 N12
        show own_Goes p e below T12 (mkF m 24 #[.val (.ref a1), .val (.int (3 : Int32)), .val (.int (2 : Int32))] [(.int (Int32.ofNat (own_nx t2 [] 3)))]) _
        rw [show (Int32.ofNat (own_nx t2 [] 3)) = (3 : Int32) from rfl]
        refine own_iloadN X12 hx (pc' := 25) rfl (hb hby d_prog_28_method_4_code_24) rfl ?_
        refine own_icmpF X12 hx (pc' := 28) rfl (hb hby d_prog_28_method_4_code_25) (XT.ii_ne_f (by decide)) ?_
        refine own_getS X12 hx hZ hown (hw _ (List.mem_of_getElem? (i := 22) rfl)) Via.refl e12 I2 (pc' := 31) rfl (hb hby d_prog_28_method_4_code_28) ?_
        intro T13 X13 e13
        refine own_goto X13 hx (pc' := 37) (hb hby d_prog_28_method_4_code_31) (by decide) (by decide) ?_
        refine own_aret X13 hx hlk hret rfl rfl (hb hby d_prog_28_method_4_code_37) (by decide) (by decide) ?_
        rw [e13]
        have hT : own_tot (3 : Int32) t0 t1 t2 t3 t4 = (1 : Int32) := by first | (simp only [own_tot, own_turn, if_pos e1_9, if_neg e2_10]; done) | (simp only [own_tot, own_turn, if_pos e1_9, if_neg e2_10]; rfl)
        exact ⟨by rw [hT]; rfl, M12, rfl⟩
    · rw [show (Int32.ofNat (own_nx t0 [t1, t2] 1)) = (1 : Int32) from by first | (simp only [own_nx, if_neg e1_9]; done) | (simp only [own_nx, if_neg e1_9]; rfl)]
      refine own_istoreN X8 hx (Ls' := #[.val (.ref a1), .val (.int (3 : Int32)), .val (.int (1 : Int32))]) (pc' := 7) rfl (hb hby d_prog_28_method_4_code_6) rfl ?_
      refine own_iloadN X8 hx (pc' := 8) rfl (hb hby d_prog_28_method_4_code_7) rfl ?_
      refine own_iloadN X8 hx (pc' := 9) rfl (hb hby d_prog_28_method_4_code_8) rfl ?_
      refine own_icmpT X8 hx (pc' := 16) (hb hby d_prog_28_method_4_code_9) (XT.ii_ne_t (by decide)) (by decide) (by decide) ?_
      refine own_aloadN X8 hx (pc' := 17) rfl (hb hby d_prog_28_method_4_code_16) rfl rfl ?_
      refine own_iloadN X8 hx (pc' := 18) rfl (hb hby d_prog_28_method_4_code_17) rfl ?_
      refine own_iloadN X8 hx (pc' := 19) rfl (hb hby d_prog_28_method_4_code_18) rfl ?_
      refine own_iconst X8 hx (v := (1 : Int32)) (pc' := 20) rfl (hb hby d_prog_28_method_4_code_19) rfl ?_
      refine own_iadd X8 hx (v := (2 : Int32)) (pc' := 21) rfl (hb hby d_prog_28_method_4_code_20) (by decide) ?_
      refine own_callS X8 hx hZ (y := (⟨"com/example/rhoquery/rhoquery/PathKind", "nextTurn", "([III)I"⟩ : MethodName)) hown (hw _ (List.mem_of_getElem? (i := 12) rfl)) (hw _ (List.mem_of_getElem? (i := 13) rfl)) (hw _ (List.mem_of_getElem? (i := 7) rfl)) (hw _ (List.mem_of_getElem? (i := 14) rfl))  (by decide) (rm_next l Z a0 hw [] f1 t0 t1 t2 t3 t4 t1 [t2] 2 a1 (3 : Int32) (2 : Int32) h0 n0 Z0 I0 hf (Or.inr (Or.inr (Or.inr (Or.inr (Or.inl ⟨rfl, rfl, rfl, rfl, rfl⟩)))))) (by decide) (W := 0) (by decide) (by decide) (by decide) e8 (by rw [hml]; rfl) (argsL := [(.ref a1), (.int (3 : Int32)), (.int (2 : Int32))]) (rest := []) rfl (lenOf pd___III_I rfl) rfl (Nat.le_of_eq rfl) (pc' := 24) rfl (hb hby d_prog_28_method_4_code_21) ?_
      rintro _ T14 L14 X14 ⟨rfl, N14, e14⟩
      have M14 := Fr.app M8 N14
      show own_Goes p e below T14 (mkF m 24 #[.val (.ref a1), .val (.int (3 : Int32)), .val (.int (1 : Int32))] [(.int (Int32.ofNat (own_nx t1 [t2] 2)))]) _
      by_cases e2_15 : (own_fwd t2) = (own_fwd t1)
      · rw [show (Int32.ofNat (own_nx t1 [t2] 2)) = (3 : Int32) from by first | (simp only [own_nx, if_pos e2_15]; done) | (simp only [own_nx, if_pos e2_15]; rfl)]
        refine own_iloadN X14 hx (pc' := 25) rfl (hb hby d_prog_28_method_4_code_24) rfl ?_
        refine own_icmpF X14 hx (pc' := 28) rfl (hb hby d_prog_28_method_4_code_25) (XT.ii_ne_f (by decide)) ?_
        refine own_getS X14 hx hZ hown (hw _ (List.mem_of_getElem? (i := 22) rfl)) Via.refl e14 I2 (pc' := 31) rfl (hb hby d_prog_28_method_4_code_28) ?_
        intro T16 X16 e16
        refine own_goto X16 hx (pc' := 37) (hb hby d_prog_28_method_4_code_31) (by decide) (by decide) ?_
        refine own_aret X16 hx hlk hret rfl rfl (hb hby d_prog_28_method_4_code_37) (by decide) (by decide) ?_
        rw [e16]
        have hT : own_tot (3 : Int32) t0 t1 t2 t3 t4 = (1 : Int32) := by first | (simp only [own_tot, own_turn, if_neg e1_9, if_pos e2_15]; done) | (simp only [own_tot, own_turn, if_neg e1_9, if_pos e2_15]; rfl)
        exact ⟨by rw [hT]; rfl, M14, rfl⟩
      · rw [show (Int32.ofNat (own_nx t1 [t2] 2)) = (2 : Int32) from by first | (simp only [own_nx, if_neg e2_15]; done) | (simp only [own_nx, if_neg e2_15]; rfl)]
        refine own_iloadN X14 hx (pc' := 25) rfl (hb hby d_prog_28_method_4_code_24) rfl ?_
        refine own_icmpT X14 hx (pc' := 34) (hb hby d_prog_28_method_4_code_25) (XT.ii_ne_t (by decide)) (by decide) (by decide) ?_
        refine own_getS X14 hx hZ hown (hw _ (List.mem_of_getElem? (i := 19) rfl)) Via.refl e14 I3 (pc' := 37) rfl (hb hby d_prog_28_method_4_code_34) ?_
        intro T17 X17 e17
        refine own_aret X17 hx hlk hret rfl rfl (hb hby d_prog_28_method_4_code_37) (by decide) (by decide) ?_
        rw [e17]
        have hT : own_tot (3 : Int32) t0 t1 t2 t3 t4 = (2 : Int32) := by first | (simp only [own_tot, own_turn, if_neg e1_9, if_neg e2_15]; done) | (simp only [own_tot, own_turn, if_neg e1_9, if_neg e2_15]; rfl)
        exact ⟨by rw [hT]; rfl, M14, rfl⟩
  · refine own_aloadN X0 hx (pc' := 1) rfl (hb hby d_prog_28_method_4_code_0) rfl rfl ?_
    refine own_iloadN X0 hx (pc' := 2) rfl (hb hby d_prog_28_method_4_code_1) rfl ?_
    refine own_iconst X0 hx (v := (1 : Int32)) (pc' := 3) rfl (hb hby d_prog_28_method_4_code_2) rfl ?_
    refine own_callS X0 hx hZ (y := (⟨"com/example/rhoquery/rhoquery/PathKind", "nextTurn", "([III)I"⟩ : MethodName)) hown (hw _ (List.mem_of_getElem? (i := 12) rfl)) (hw _ (List.mem_of_getElem? (i := 13) rfl)) (hw _ (List.mem_of_getElem? (i := 7) rfl)) (hw _ (List.mem_of_getElem? (i := 14) rfl))  (by decide) (rm_next l Z a0 hw [] f1 t0 t1 t2 t3 t4 t0 [t1, t2, t3] 1 a1 (4 : Int32) (1 : Int32) h0 n0 Z0 I0 hf (Or.inr (Or.inr (Or.inr (Or.inr (Or.inr (Or.inr (Or.inl ⟨rfl, rfl, rfl, rfl, rfl⟩)))))))) (by decide) (W := 0) (by decide) (by decide) (by decide) e0 (by rw [hml]; rfl) (argsL := [(.ref a1), (.int (4 : Int32)), (.int (1 : Int32))]) (rest := []) rfl (lenOf pd___III_I rfl) rfl (Nat.le_of_eq rfl) (pc' := 6) rfl (hb hby d_prog_28_method_4_code_3) ?_
    rintro _ T18 L18 X18 ⟨rfl, N18, e18⟩
    have M18 := Fr.app N0 N18
    show own_Goes p e below T18 (mkF m 6 #[.val (.ref a1), .val (.int (4 : Int32)), .unset] [(.int (Int32.ofNat (own_nx t0 [t1, t2, t3] 1)))]) _
    by_cases e1_19 : (own_fwd t1) = (own_fwd t0)
    · by_cases e2_20 : (own_fwd t2) = (own_fwd t1)
      · by_cases e3_21 : (own_fwd t3) = (own_fwd t2)
        · rw [show (Int32.ofNat (own_nx t0 [t1, t2, t3] 1)) = (4 : Int32) from by first | (simp only [own_nx, if_pos e1_19, if_pos e2_20, if_pos e3_21]; done) | (simp only [own_nx, if_pos e1_19, if_pos e2_20, if_pos e3_21]; rfl)]
          refine own_istoreN X18 hx (Ls' := #[.val (.ref a1), .val (.int (4 : Int32)), .val (.int (4 : Int32))]) (pc' := 7) rfl (hb hby d_prog_28_method_4_code_6) rfl ?_
          refine own_iloadN X18 hx (pc' := 8) rfl (hb hby d_prog_28_method_4_code_7) rfl ?_
          refine own_iloadN X18 hx (pc' := 9) rfl (hb hby d_prog_28_method_4_code_8) rfl ?_
          refine own_icmpF X18 hx (pc' := 12) rfl (hb hby d_prog_28_method_4_code_9) (XT.ii_ne_f (by decide)) ?_
          refine own_getS X18 hx hZ hown (hw _ (List.mem_of_getElem? (i := 25) rfl)) Via.refl e18 I1 (pc' := 15) rfl (hb hby d_prog_28_method_4_code_12) ?_
          intro T22 X22 e22
          refine own_aret X22 hx hlk hret rfl rfl (hb hby d_prog_28_method_4_code_15) (by decide) (by decide) ?_
          rw [e22]
          have hT : own_tot (4 : Int32) t0 t1 t2 t3 t4 = (0 : Int32) := by first | (simp only [own_tot, own_turn, if_pos e1_19, if_pos e2_20, if_pos e3_21]; done) | (simp only [own_tot, own_turn, if_pos e1_19, if_pos e2_20, if_pos e3_21]; rfl)
          exact ⟨by rw [hT]; rfl, M18, rfl⟩
        · rw [show (Int32.ofNat (own_nx t0 [t1, t2, t3] 1)) = (3 : Int32) from by first | (simp only [own_nx, if_pos e1_19, if_pos e2_20, if_neg e3_21]; done) | (simp only [own_nx, if_pos e1_19, if_pos e2_20, if_neg e3_21]; rfl)]
          refine own_istoreN X18 hx (Ls' := #[.val (.ref a1), .val (.int (4 : Int32)), .val (.int (3 : Int32))]) (pc' := 7) rfl (hb hby d_prog_28_method_4_code_6) rfl ?_
          refine own_iloadN X18 hx (pc' := 8) rfl (hb hby d_prog_28_method_4_code_7) rfl ?_
          refine own_iloadN X18 hx (pc' := 9) rfl (hb hby d_prog_28_method_4_code_8) rfl ?_
          refine own_icmpT X18 hx (pc' := 16) (hb hby d_prog_28_method_4_code_9) (XT.ii_ne_t (by decide)) (by decide) (by decide) ?_
          refine own_aloadN X18 hx (pc' := 17) rfl (hb hby d_prog_28_method_4_code_16) rfl rfl ?_
          refine own_iloadN X18 hx (pc' := 18) rfl (hb hby d_prog_28_method_4_code_17) rfl ?_
          refine own_iloadN X18 hx (pc' := 19) rfl (hb hby d_prog_28_method_4_code_18) rfl ?_
          refine own_iconst X18 hx (v := (1 : Int32)) (pc' := 20) rfl (hb hby d_prog_28_method_4_code_19) rfl ?_
          refine own_iadd X18 hx (v := (4 : Int32)) (pc' := 21) rfl (hb hby d_prog_28_method_4_code_20) (by decide) ?_
          refine own_callS X18 hx hZ (y := (⟨"com/example/rhoquery/rhoquery/PathKind", "nextTurn", "([III)I"⟩ : MethodName)) hown (hw _ (List.mem_of_getElem? (i := 12) rfl)) (hw _ (List.mem_of_getElem? (i := 13) rfl)) (hw _ (List.mem_of_getElem? (i := 7) rfl)) (hw _ (List.mem_of_getElem? (i := 14) rfl))  (by decide) (rm_next l Z a0 hw [] f1 t0 t1 t2 t3 t4 t3 [] 4 a1 (4 : Int32) (4 : Int32) h0 n0 Z0 I0 hf (Or.inr (Or.inr (Or.inr (Or.inr (Or.inr (Or.inr (Or.inr (Or.inr (Or.inr (Or.inl ⟨rfl, rfl, rfl, rfl, rfl⟩))))))))))) (by decide) (W := 0) (by decide) (by decide) (by decide) e18 (by rw [hml]; rfl) (argsL := [(.ref a1), (.int (4 : Int32)), (.int (4 : Int32))]) (rest := []) rfl (lenOf pd___III_I rfl) rfl (Nat.le_of_eq rfl) (pc' := 24) rfl (hb hby d_prog_28_method_4_code_21) ?_
          rintro _ T23 L23 X23 ⟨rfl, N23, e23⟩
          have M23 := Fr.app M18 N23
          show own_Goes p e below T23 (mkF m 24 #[.val (.ref a1), .val (.int (4 : Int32)), .val (.int (3 : Int32))] [(.int (Int32.ofNat (own_nx t3 [] 4)))]) _
          rw [show (Int32.ofNat (own_nx t3 [] 4)) = (4 : Int32) from rfl]
          refine own_iloadN X23 hx (pc' := 25) rfl (hb hby d_prog_28_method_4_code_24) rfl ?_
          refine own_icmpF X23 hx (pc' := 28) rfl (hb hby d_prog_28_method_4_code_25) (XT.ii_ne_f (by decide)) ?_
          refine own_getS X23 hx hZ hown (hw _ (List.mem_of_getElem? (i := 22) rfl)) Via.refl e23 I2 (pc' := 31) rfl (hb hby d_prog_28_method_4_code_28) ?_
          intro T24 X24 e24
          refine own_goto X24 hx (pc' := 37) (hb hby d_prog_28_method_4_code_31) (by decide) (by decide) ?_
          refine own_aret X24 hx hlk hret rfl rfl (hb hby d_prog_28_method_4_code_37) (by decide) (by decide) ?_
          rw [e24]
          have hT : own_tot (4 : Int32) t0 t1 t2 t3 t4 = (1 : Int32) := by first | (simp only [own_tot, own_turn, if_pos e1_19, if_pos e2_20, if_neg e3_21]; done) | (simp only [own_tot, own_turn, if_pos e1_19, if_pos e2_20, if_neg e3_21]; rfl)
          exact ⟨by rw [hT]; rfl, M23, rfl⟩
      · rw [show (Int32.ofNat (own_nx t0 [t1, t2, t3] 1)) = (2 : Int32) from by first | (simp only [own_nx, if_pos e1_19, if_neg e2_20]; done) | (simp only [own_nx, if_pos e1_19, if_neg e2_20]; rfl)]
        refine own_istoreN X18 hx (Ls' := #[.val (.ref a1), .val (.int (4 : Int32)), .val (.int (2 : Int32))]) (pc' := 7) rfl (hb hby d_prog_28_method_4_code_6) rfl ?_
        refine own_iloadN X18 hx (pc' := 8) rfl (hb hby d_prog_28_method_4_code_7) rfl ?_
        refine own_iloadN X18 hx (pc' := 9) rfl (hb hby d_prog_28_method_4_code_8) rfl ?_
        refine own_icmpT X18 hx (pc' := 16) (hb hby d_prog_28_method_4_code_9) (XT.ii_ne_t (by decide)) (by decide) (by decide) ?_
        refine own_aloadN X18 hx (pc' := 17) rfl (hb hby d_prog_28_method_4_code_16) rfl rfl ?_
        refine own_iloadN X18 hx (pc' := 18) rfl (hb hby d_prog_28_method_4_code_17) rfl ?_
        refine own_iloadN X18 hx (pc' := 19) rfl (hb hby d_prog_28_method_4_code_18) rfl ?_
        refine own_iconst X18 hx (v := (1 : Int32)) (pc' := 20) rfl (hb hby d_prog_28_method_4_code_19) rfl ?_
        refine own_iadd X18 hx (v := (3 : Int32)) (pc' := 21) rfl (hb hby d_prog_28_method_4_code_20) (by decide) ?_
        refine own_callS X18 hx hZ (y := (⟨"com/example/rhoquery/rhoquery/PathKind", "nextTurn", "([III)I"⟩ : MethodName)) hown (hw _ (List.mem_of_getElem? (i := 12) rfl)) (hw _ (List.mem_of_getElem? (i := 13) rfl)) (hw _ (List.mem_of_getElem? (i := 7) rfl)) (hw _ (List.mem_of_getElem? (i := 14) rfl))  (by decide) (rm_next l Z a0 hw [] f1 t0 t1 t2 t3 t4 t2 [t3] 3 a1 (4 : Int32) (3 : Int32) h0 n0 Z0 I0 hf (Or.inr (Or.inr (Or.inr (Or.inr (Or.inr (Or.inr (Or.inr (Or.inr (Or.inl ⟨rfl, rfl, rfl, rfl, rfl⟩)))))))))) (by decide) (W := 0) (by decide) (by decide) (by decide) e18 (by rw [hml]; rfl) (argsL := [(.ref a1), (.int (4 : Int32)), (.int (3 : Int32))]) (rest := []) rfl (lenOf pd___III_I rfl) rfl (Nat.le_of_eq rfl) (pc' := 24) rfl (hb hby d_prog_28_method_4_code_21) ?_
        rintro _ T25 L25 X25 ⟨rfl, N25, e25⟩
        have M25 := Fr.app M18 N25
        show own_Goes p e below T25 (mkF m 24 #[.val (.ref a1), .val (.int (4 : Int32)), .val (.int (2 : Int32))] [(.int (Int32.ofNat (own_nx t2 [t3] 3)))]) _
        by_cases e3_26 : (own_fwd t3) = (own_fwd t2)
        · rw [show (Int32.ofNat (own_nx t2 [t3] 3)) = (4 : Int32) from by first | (simp only [own_nx, if_pos e3_26]; done) | (simp only [own_nx, if_pos e3_26]; rfl)]
          refine own_iloadN X25 hx (pc' := 25) rfl (hb hby d_prog_28_method_4_code_24) rfl ?_
          refine own_icmpF X25 hx (pc' := 28) rfl (hb hby d_prog_28_method_4_code_25) (XT.ii_ne_f (by decide)) ?_
          refine own_getS X25 hx hZ hown (hw _ (List.mem_of_getElem? (i := 22) rfl)) Via.refl e25 I2 (pc' := 31) rfl (hb hby d_prog_28_method_4_code_28) ?_
          intro T27 X27 e27
          refine own_goto X27 hx (pc' := 37) (hb hby d_prog_28_method_4_code_31) (by decide) (by decide) ?_
          refine own_aret X27 hx hlk hret rfl rfl (hb hby d_prog_28_method_4_code_37) (by decide) (by decide) ?_
          rw [e27]
          have hT : own_tot (4 : Int32) t0 t1 t2 t3 t4 = (1 : Int32) := by first | (simp only [own_tot, own_turn, if_pos e1_19, if_neg e2_20, if_pos e3_26]; done) | (simp only [own_tot, own_turn, if_pos e1_19, if_neg e2_20, if_pos e3_26]; rfl)
          exact ⟨by rw [hT]; rfl, M25, rfl⟩
        · rw [show (Int32.ofNat (own_nx t2 [t3] 3)) = (3 : Int32) from by first | (simp only [own_nx, if_neg e3_26]; done) | (simp only [own_nx, if_neg e3_26]; rfl)]
          refine own_iloadN X25 hx (pc' := 25) rfl (hb hby d_prog_28_method_4_code_24) rfl ?_
          refine own_icmpT X25 hx (pc' := 34) (hb hby d_prog_28_method_4_code_25) (XT.ii_ne_t (by decide)) (by decide) (by decide) ?_
          refine own_getS X25 hx hZ hown (hw _ (List.mem_of_getElem? (i := 19) rfl)) Via.refl e25 I3 (pc' := 37) rfl (hb hby d_prog_28_method_4_code_34) ?_
          intro T28 X28 e28
          refine own_aret X28 hx hlk hret rfl rfl (hb hby d_prog_28_method_4_code_37) (by decide) (by decide) ?_
          rw [e28]
          have hT : own_tot (4 : Int32) t0 t1 t2 t3 t4 = (2 : Int32) := by first | (simp only [own_tot, own_turn, if_pos e1_19, if_neg e2_20, if_neg e3_26]; done) | (simp only [own_tot, own_turn, if_pos e1_19, if_neg e2_20, if_neg e3_26]; rfl)
          exact ⟨by rw [hT]; rfl, M25, rfl⟩
    · rw [show (Int32.ofNat (own_nx t0 [t1, t2, t3] 1)) = (1 : Int32) from by first | (simp only [own_nx, if_neg e1_19]; done) | (simp only [own_nx, if_neg e1_19]; rfl)]
      refine own_istoreN X18 hx (Ls' := #[.val (.ref a1), .val (.int (4 : Int32)), .val (.int (1 : Int32))]) (pc' := 7) rfl (hb hby d_prog_28_method_4_code_6) rfl ?_
      refine own_iloadN X18 hx (pc' := 8) rfl (hb hby d_prog_28_method_4_code_7) rfl ?_
      refine own_iloadN X18 hx (pc' := 9) rfl (hb hby d_prog_28_method_4_code_8) rfl ?_
      refine own_icmpT X18 hx (pc' := 16) (hb hby d_prog_28_method_4_code_9) (XT.ii_ne_t (by decide)) (by decide) (by decide) ?_
      refine own_aloadN X18 hx (pc' := 17) rfl (hb hby d_prog_28_method_4_code_16) rfl rfl ?_
      refine own_iloadN X18 hx (pc' := 18) rfl (hb hby d_prog_28_method_4_code_17) rfl ?_
      refine own_iloadN X18 hx (pc' := 19) rfl (hb hby d_prog_28_method_4_code_18) rfl ?_
      refine own_iconst X18 hx (v := (1 : Int32)) (pc' := 20) rfl (hb hby d_prog_28_method_4_code_19) rfl ?_
      refine own_iadd X18 hx (v := (2 : Int32)) (pc' := 21) rfl (hb hby d_prog_28_method_4_code_20) (by decide) ?_
      refine own_callS X18 hx hZ (y := (⟨"com/example/rhoquery/rhoquery/PathKind", "nextTurn", "([III)I"⟩ : MethodName)) hown (hw _ (List.mem_of_getElem? (i := 12) rfl)) (hw _ (List.mem_of_getElem? (i := 13) rfl)) (hw _ (List.mem_of_getElem? (i := 7) rfl)) (hw _ (List.mem_of_getElem? (i := 14) rfl))  (by decide) (rm_next l Z a0 hw [] f1 t0 t1 t2 t3 t4 t1 [t2, t3] 2 a1 (4 : Int32) (2 : Int32) h0 n0 Z0 I0 hf (Or.inr (Or.inr (Or.inr (Or.inr (Or.inr (Or.inr (Or.inr (Or.inl ⟨rfl, rfl, rfl, rfl, rfl⟩))))))))) (by decide) (W := 0) (by decide) (by decide) (by decide) e18 (by rw [hml]; rfl) (argsL := [(.ref a1), (.int (4 : Int32)), (.int (2 : Int32))]) (rest := []) rfl (lenOf pd___III_I rfl) rfl (Nat.le_of_eq rfl) (pc' := 24) rfl (hb hby d_prog_28_method_4_code_21) ?_
      rintro _ T29 L29 X29 ⟨rfl, N29, e29⟩
      have M29 := Fr.app M18 N29
      show own_Goes p e below T29 (mkF m 24 #[.val (.ref a1), .val (.int (4 : Int32)), .val (.int (1 : Int32))] [(.int (Int32.ofNat (own_nx t1 [t2, t3] 2)))]) _
      by_cases e2_30 : (own_fwd t2) = (own_fwd t1)
      · by_cases e3_31 : (own_fwd t3) = (own_fwd t2)
        · rw [show (Int32.ofNat (own_nx t1 [t2, t3] 2)) = (4 : Int32) from by first | (simp only [own_nx, if_pos e2_30, if_pos e3_31]; done) | (simp only [own_nx, if_pos e2_30, if_pos e3_31]; rfl)]
          refine own_iloadN X29 hx (pc' := 25) rfl (hb hby d_prog_28_method_4_code_24) rfl ?_
          refine own_icmpF X29 hx (pc' := 28) rfl (hb hby d_prog_28_method_4_code_25) (XT.ii_ne_f (by decide)) ?_
          refine own_getS X29 hx hZ hown (hw _ (List.mem_of_getElem? (i := 22) rfl)) Via.refl e29 I2 (pc' := 31) rfl (hb hby d_prog_28_method_4_code_28) ?_
          intro T32 X32 e32
          refine own_goto X32 hx (pc' := 37) (hb hby d_prog_28_method_4_code_31) (by decide) (by decide) ?_
          refine own_aret X32 hx hlk hret rfl rfl (hb hby d_prog_28_method_4_code_37) (by decide) (by decide) ?_
          rw [e32]
          have hT : own_tot (4 : Int32) t0 t1 t2 t3 t4 = (1 : Int32) := by first | (simp only [own_tot, own_turn, if_neg e1_19, if_pos e2_30, if_pos e3_31]; done) | (simp only [own_tot, own_turn, if_neg e1_19, if_pos e2_30, if_pos e3_31]; rfl)
          exact ⟨by rw [hT]; rfl, M29, rfl⟩
        · rw [show (Int32.ofNat (own_nx t1 [t2, t3] 2)) = (3 : Int32) from by first | (simp only [own_nx, if_pos e2_30, if_neg e3_31]; done) | (simp only [own_nx, if_pos e2_30, if_neg e3_31]; rfl)]
          refine own_iloadN X29 hx (pc' := 25) rfl (hb hby d_prog_28_method_4_code_24) rfl ?_
          refine own_icmpT X29 hx (pc' := 34) (hb hby d_prog_28_method_4_code_25) (XT.ii_ne_t (by decide)) (by decide) (by decide) ?_
          refine own_getS X29 hx hZ hown (hw _ (List.mem_of_getElem? (i := 19) rfl)) Via.refl e29 I3 (pc' := 37) rfl (hb hby d_prog_28_method_4_code_34) ?_
          intro T33 X33 e33
          refine own_aret X33 hx hlk hret rfl rfl (hb hby d_prog_28_method_4_code_37) (by decide) (by decide) ?_
          rw [e33]
          have hT : own_tot (4 : Int32) t0 t1 t2 t3 t4 = (2 : Int32) := by first | (simp only [own_tot, own_turn, if_neg e1_19, if_pos e2_30, if_neg e3_31]; done) | (simp only [own_tot, own_turn, if_neg e1_19, if_pos e2_30, if_neg e3_31]; rfl)
          exact ⟨by rw [hT]; rfl, M29, rfl⟩
      · rw [show (Int32.ofNat (own_nx t1 [t2, t3] 2)) = (2 : Int32) from by first | (simp only [own_nx, if_neg e2_30]; done) | (simp only [own_nx, if_neg e2_30]; rfl)]
        refine own_iloadN X29 hx (pc' := 25) rfl (hb hby d_prog_28_method_4_code_24) rfl ?_
        refine own_icmpT X29 hx (pc' := 34) (hb hby d_prog_28_method_4_code_25) (XT.ii_ne_t (by decide)) (by decide) (by decide) ?_
        refine own_getS X29 hx hZ hown (hw _ (List.mem_of_getElem? (i := 19) rfl)) Via.refl e29 I3 (pc' := 37) rfl (hb hby d_prog_28_method_4_code_34) ?_
        intro T34 X34 e34
        refine own_aret X34 hx hlk hret rfl rfl (hb hby d_prog_28_method_4_code_37) (by decide) (by decide) ?_
        rw [e34]
        by_cases e3_35 : (own_fwd t3) = (own_fwd t2)
        · have hT : own_tot (4 : Int32) t0 t1 t2 t3 t4 = (2 : Int32) := by first | (simp only [own_tot, own_turn, if_neg e1_19, if_neg e2_30, if_pos e3_35]; done) | (simp only [own_tot, own_turn, if_neg e1_19, if_neg e2_30, if_pos e3_35]; rfl)
          exact ⟨by rw [hT]; rfl, M29, rfl⟩
        · have hT : own_tot (4 : Int32) t0 t1 t2 t3 t4 = (3 : Int32) := by first | (simp only [own_tot, own_turn, if_neg e1_19, if_neg e2_30, if_neg e3_35]; done) | (simp only [own_tot, own_turn, if_neg e1_19, if_neg e2_30, if_neg e3_35]; rfl)
          exact ⟨by rw [hT]; rfl, M29, rfl⟩
  · refine own_aloadN X0 hx (pc' := 1) rfl (hb hby d_prog_28_method_4_code_0) rfl rfl ?_
    refine own_iloadN X0 hx (pc' := 2) rfl (hb hby d_prog_28_method_4_code_1) rfl ?_
    refine own_iconst X0 hx (v := (1 : Int32)) (pc' := 3) rfl (hb hby d_prog_28_method_4_code_2) rfl ?_
    refine own_callS X0 hx hZ (y := (⟨"com/example/rhoquery/rhoquery/PathKind", "nextTurn", "([III)I"⟩ : MethodName)) hown (hw _ (List.mem_of_getElem? (i := 12) rfl)) (hw _ (List.mem_of_getElem? (i := 13) rfl)) (hw _ (List.mem_of_getElem? (i := 7) rfl)) (hw _ (List.mem_of_getElem? (i := 14) rfl))  (by decide) (rm_next l Z a0 hw [] f1 t0 t1 t2 t3 t4 t0 [t1, t2, t3, t4] 1 a1 (5 : Int32) (1 : Int32) h0 n0 Z0 I0 hf (Or.inr (Or.inr (Or.inr (Or.inr (Or.inr (Or.inr (Or.inr (Or.inr (Or.inr (Or.inr (Or.inl ⟨rfl, rfl, rfl, rfl, rfl⟩)))))))))))) (by decide) (W := 0) (by decide) (by decide) (by decide) e0 (by rw [hml]; rfl) (argsL := [(.ref a1), (.int (5 : Int32)), (.int (1 : Int32))]) (rest := []) rfl (lenOf pd___III_I rfl) rfl (Nat.le_of_eq rfl) (pc' := 6) rfl (hb hby d_prog_28_method_4_code_3) ?_
    rintro _ T36 L36 X36 ⟨rfl, N36, e36⟩
    have M36 := Fr.app N0 N36
    show own_Goes p e below T36 (mkF m 6 #[.val (.ref a1), .val (.int (5 : Int32)), .unset] [(.int (Int32.ofNat (own_nx t0 [t1, t2, t3, t4] 1)))]) _
    by_cases e1_37 : (own_fwd t1) = (own_fwd t0)
    · by_cases e2_38 : (own_fwd t2) = (own_fwd t1)
      · by_cases e3_39 : (own_fwd t3) = (own_fwd t2)
        · by_cases e4_40 : (own_fwd t4) = (own_fwd t3)
          · rw [show (Int32.ofNat (own_nx t0 [t1, t2, t3, t4] 1)) = (5 : Int32) from by first | (simp only [own_nx, if_pos e1_37, if_pos e2_38, if_pos e3_39, if_pos e4_40]; done) | (simp only [own_nx, if_pos e1_37, if_pos e2_38, if_pos e3_39, if_pos e4_40]; rfl)]
            refine own_istoreN X36 hx (Ls' := #[.val (.ref a1), .val (.int (5 : Int32)), .val (.int (5 : Int32))]) (pc' := 7) rfl (hb hby d_prog_28_method_4_code_6) rfl ?_
            refine own_iloadN X36 hx (pc' := 8) rfl (hb hby d_prog_28_method_4_code_7) rfl ?_
            refine own_iloadN X36 hx (pc' := 9) rfl (hb hby d_prog_28_method_4_code_8) rfl ?_
            refine own_icmpF X36 hx (pc' := 12) rfl (hb hby d_prog_28_method_4_code_9) (XT.ii_ne_f (by decide)) ?_
            refine own_getS X36 hx hZ hown (hw _ (List.mem_of_getElem? (i := 25) rfl)) Via.refl e36 I1 (pc' := 15) rfl (hb hby d_prog_28_method_4_code_12) ?_
            intro T41 X41 e41
            refine own_aret X41 hx hlk hret rfl rfl (hb hby d_prog_28_method_4_code_15) (by decide) (by decide) ?_
            rw [e41]
            have hT : own_tot (5 : Int32) t0 t1 t2 t3 t4 = (0 : Int32) := by first | (simp only [own_tot, own_turn, if_pos e1_37, if_pos e2_38, if_pos e3_39, if_pos e4_40]; done) | (simp only [own_tot, own_turn, if_pos e1_37, if_pos e2_38, if_pos e3_39, if_pos e4_40]; rfl)
            exact ⟨by rw [hT]; rfl, M36, rfl⟩
          · rw [show (Int32.ofNat (own_nx t0 [t1, t2, t3, t4] 1)) = (4 : Int32) from by first | (simp only [own_nx, if_pos e1_37, if_pos e2_38, if_pos e3_39, if_neg e4_40]; done) | (simp only [own_nx, if_pos e1_37, if_pos e2_38, if_pos e3_39, if_neg e4_40]; rfl)]
            refine own_istoreN X36 hx (Ls' := #[.val (.ref a1), .val (.int (5 : Int32)), .val (.int (4 : Int32))]) (pc' := 7) rfl (hb hby d_prog_28_method_4_code_6) rfl ?_
            refine own_iloadN X36 hx (pc' := 8) rfl (hb hby d_prog_28_method_4_code_7) rfl ?_
            refine own_iloadN X36 hx (pc' := 9) rfl (hb hby d_prog_28_method_4_code_8) rfl ?_
            refine own_icmpT X36 hx (pc' := 16) (hb hby d_prog_28_method_4_code_9) (XT.ii_ne_t (by decide)) (by decide) (by decide) ?_
            refine own_aloadN X36 hx (pc' := 17) rfl (hb hby d_prog_28_method_4_code_16) rfl rfl ?_
            refine own_iloadN X36 hx (pc' := 18) rfl (hb hby d_prog_28_method_4_code_17) rfl ?_
            refine own_iloadN X36 hx (pc' := 19) rfl (hb hby d_prog_28_method_4_code_18) rfl ?_
            refine own_iconst X36 hx (v := (1 : Int32)) (pc' := 20) rfl (hb hby d_prog_28_method_4_code_19) rfl ?_
            refine own_iadd X36 hx (v := (5 : Int32)) (pc' := 21) rfl (hb hby d_prog_28_method_4_code_20) (by decide) ?_
            refine own_callS X36 hx hZ (y := (⟨"com/example/rhoquery/rhoquery/PathKind", "nextTurn", "([III)I"⟩ : MethodName)) hown (hw _ (List.mem_of_getElem? (i := 12) rfl)) (hw _ (List.mem_of_getElem? (i := 13) rfl)) (hw _ (List.mem_of_getElem? (i := 7) rfl)) (hw _ (List.mem_of_getElem? (i := 14) rfl))  (by decide) (rm_next l Z a0 hw [] f1 t0 t1 t2 t3 t4 t4 [] 5 a1 (5 : Int32) (5 : Int32) h0 n0 Z0 I0 hf (Or.inr (Or.inr (Or.inr (Or.inr (Or.inr (Or.inr (Or.inr (Or.inr (Or.inr (Or.inr (Or.inr (Or.inr (Or.inr (Or.inr ⟨rfl, rfl, rfl, rfl, rfl⟩))))))))))))))) (by decide) (W := 0) (by decide) (by decide) (by decide) e36 (by rw [hml]; rfl) (argsL := [(.ref a1), (.int (5 : Int32)), (.int (5 : Int32))]) (rest := []) rfl (lenOf pd___III_I rfl) rfl (Nat.le_of_eq rfl) (pc' := 24) rfl (hb hby d_prog_28_method_4_code_21) ?_
            rintro _ T42 L42 X42 ⟨rfl, N42, e42⟩
            have M42 := Fr.app M36 N42
            show own_Goes p e below T42 (mkF m 24 #[.val (.ref a1), .val (.int (5 : Int32)), .val (.int (4 : Int32))] [(.int (Int32.ofNat (own_nx t4 [] 5)))]) _
            rw [show (Int32.ofNat (own_nx t4 [] 5)) = (5 : Int32) from rfl]
            refine own_iloadN X42 hx (pc' := 25) rfl (hb hby d_prog_28_method_4_code_24) rfl ?_
            refine own_icmpF X42 hx (pc' := 28) rfl (hb hby d_prog_28_method_4_code_25) (XT.ii_ne_f (by decide)) ?_
            refine own_getS X42 hx hZ hown (hw _ (List.mem_of_getElem? (i := 22) rfl)) Via.refl e42 I2 (pc' := 31) rfl (hb hby d_prog_28_method_4_code_28) ?_
            intro T43 X43 e43
            refine own_goto X43 hx (pc' := 37) (hb hby d_prog_28_method_4_code_31) (by decide) (by decide) ?_
            refine own_aret X43 hx hlk hret rfl rfl (hb hby d_prog_28_method_4_code_37) (by decide) (by decide) ?_
            rw [e43]
            have hT : own_tot (5 : Int32) t0 t1 t2 t3 t4 = (1 : Int32) := by first | (simp only [own_tot, own_turn, if_pos e1_37, if_pos e2_38, if_pos e3_39, if_neg e4_40]; done) | (simp only [own_tot, own_turn, if_pos e1_37, if_pos e2_38, if_pos e3_39, if_neg e4_40]; rfl)
            exact ⟨by rw [hT]; rfl, M42, rfl⟩
        · rw [show (Int32.ofNat (own_nx t0 [t1, t2, t3, t4] 1)) = (3 : Int32) from by first | (simp only [own_nx, if_pos e1_37, if_pos e2_38, if_neg e3_39]; done) | (simp only [own_nx, if_pos e1_37, if_pos e2_38, if_neg e3_39]; rfl)]
          refine own_istoreN X36 hx (Ls' := #[.val (.ref a1), .val (.int (5 : Int32)), .val (.int (3 : Int32))]) (pc' := 7) rfl (hb hby d_prog_28_method_4_code_6) rfl ?_
          refine own_iloadN X36 hx (pc' := 8) rfl (hb hby d_prog_28_method_4_code_7) rfl ?_
          refine own_iloadN X36 hx (pc' := 9) rfl (hb hby d_prog_28_method_4_code_8) rfl ?_
          refine own_icmpT X36 hx (pc' := 16) (hb hby d_prog_28_method_4_code_9) (XT.ii_ne_t (by decide)) (by decide) (by decide) ?_
          refine own_aloadN X36 hx (pc' := 17) rfl (hb hby d_prog_28_method_4_code_16) rfl rfl ?_
          refine own_iloadN X36 hx (pc' := 18) rfl (hb hby d_prog_28_method_4_code_17) rfl ?_
          refine own_iloadN X36 hx (pc' := 19) rfl (hb hby d_prog_28_method_4_code_18) rfl ?_
          refine own_iconst X36 hx (v := (1 : Int32)) (pc' := 20) rfl (hb hby d_prog_28_method_4_code_19) rfl ?_
          refine own_iadd X36 hx (v := (4 : Int32)) (pc' := 21) rfl (hb hby d_prog_28_method_4_code_20) (by decide) ?_
          refine own_callS X36 hx hZ (y := (⟨"com/example/rhoquery/rhoquery/PathKind", "nextTurn", "([III)I"⟩ : MethodName)) hown (hw _ (List.mem_of_getElem? (i := 12) rfl)) (hw _ (List.mem_of_getElem? (i := 13) rfl)) (hw _ (List.mem_of_getElem? (i := 7) rfl)) (hw _ (List.mem_of_getElem? (i := 14) rfl))  (by decide) (rm_next l Z a0 hw [] f1 t0 t1 t2 t3 t4 t3 [t4] 4 a1 (5 : Int32) (4 : Int32) h0 n0 Z0 I0 hf (Or.inr (Or.inr (Or.inr (Or.inr (Or.inr (Or.inr (Or.inr (Or.inr (Or.inr (Or.inr (Or.inr (Or.inr (Or.inr (Or.inl ⟨rfl, rfl, rfl, rfl, rfl⟩))))))))))))))) (by decide) (W := 0) (by decide) (by decide) (by decide) e36 (by rw [hml]; rfl) (argsL := [(.ref a1), (.int (5 : Int32)), (.int (4 : Int32))]) (rest := []) rfl (lenOf pd___III_I rfl) rfl (Nat.le_of_eq rfl) (pc' := 24) rfl (hb hby d_prog_28_method_4_code_21) ?_
          rintro _ T44 L44 X44 ⟨rfl, N44, e44⟩
          have M44 := Fr.app M36 N44
          show own_Goes p e below T44 (mkF m 24 #[.val (.ref a1), .val (.int (5 : Int32)), .val (.int (3 : Int32))] [(.int (Int32.ofNat (own_nx t3 [t4] 4)))]) _
          by_cases e4_45 : (own_fwd t4) = (own_fwd t3)
          · rw [show (Int32.ofNat (own_nx t3 [t4] 4)) = (5 : Int32) from by first | (simp only [own_nx, if_pos e4_45]; done) | (simp only [own_nx, if_pos e4_45]; rfl)]
            refine own_iloadN X44 hx (pc' := 25) rfl (hb hby d_prog_28_method_4_code_24) rfl ?_
            refine own_icmpF X44 hx (pc' := 28) rfl (hb hby d_prog_28_method_4_code_25) (XT.ii_ne_f (by decide)) ?_
            refine own_getS X44 hx hZ hown (hw _ (List.mem_of_getElem? (i := 22) rfl)) Via.refl e44 I2 (pc' := 31) rfl (hb hby d_prog_28_method_4_code_28) ?_
            intro T46 X46 e46
            refine own_goto X46 hx (pc' := 37) (hb hby d_prog_28_method_4_code_31) (by decide) (by decide) ?_
            refine own_aret X46 hx hlk hret rfl rfl (hb hby d_prog_28_method_4_code_37) (by decide) (by decide) ?_
            rw [e46]
            have hT : own_tot (5 : Int32) t0 t1 t2 t3 t4 = (1 : Int32) := by first | (simp only [own_tot, own_turn, if_pos e1_37, if_pos e2_38, if_neg e3_39, if_pos e4_45]; done) | (simp only [own_tot, own_turn, if_pos e1_37, if_pos e2_38, if_neg e3_39, if_pos e4_45]; rfl)
            exact ⟨by rw [hT]; rfl, M44, rfl⟩
          · rw [show (Int32.ofNat (own_nx t3 [t4] 4)) = (4 : Int32) from by first | (simp only [own_nx, if_neg e4_45]; done) | (simp only [own_nx, if_neg e4_45]; rfl)]
            refine own_iloadN X44 hx (pc' := 25) rfl (hb hby d_prog_28_method_4_code_24) rfl ?_
            refine own_icmpT X44 hx (pc' := 34) (hb hby d_prog_28_method_4_code_25) (XT.ii_ne_t (by decide)) (by decide) (by decide) ?_
            refine own_getS X44 hx hZ hown (hw _ (List.mem_of_getElem? (i := 19) rfl)) Via.refl e44 I3 (pc' := 37) rfl (hb hby d_prog_28_method_4_code_34) ?_
            intro T47 X47 e47
            refine own_aret X47 hx hlk hret rfl rfl (hb hby d_prog_28_method_4_code_37) (by decide) (by decide) ?_
            rw [e47]
            have hT : own_tot (5 : Int32) t0 t1 t2 t3 t4 = (2 : Int32) := by first | (simp only [own_tot, own_turn, if_pos e1_37, if_pos e2_38, if_neg e3_39, if_neg e4_45]; done) | (simp only [own_tot, own_turn, if_pos e1_37, if_pos e2_38, if_neg e3_39, if_neg e4_45]; rfl)
            exact ⟨by rw [hT]; rfl, M44, rfl⟩
      · rw [show (Int32.ofNat (own_nx t0 [t1, t2, t3, t4] 1)) = (2 : Int32) from by first | (simp only [own_nx, if_pos e1_37, if_neg e2_38]; done) | (simp only [own_nx, if_pos e1_37, if_neg e2_38]; rfl)]
        refine own_istoreN X36 hx (Ls' := #[.val (.ref a1), .val (.int (5 : Int32)), .val (.int (2 : Int32))]) (pc' := 7) rfl (hb hby d_prog_28_method_4_code_6) rfl ?_
        refine own_iloadN X36 hx (pc' := 8) rfl (hb hby d_prog_28_method_4_code_7) rfl ?_
        refine own_iloadN X36 hx (pc' := 9) rfl (hb hby d_prog_28_method_4_code_8) rfl ?_
        refine own_icmpT X36 hx (pc' := 16) (hb hby d_prog_28_method_4_code_9) (XT.ii_ne_t (by decide)) (by decide) (by decide) ?_
        refine own_aloadN X36 hx (pc' := 17) rfl (hb hby d_prog_28_method_4_code_16) rfl rfl ?_
        refine own_iloadN X36 hx (pc' := 18) rfl (hb hby d_prog_28_method_4_code_17) rfl ?_
        refine own_iloadN X36 hx (pc' := 19) rfl (hb hby d_prog_28_method_4_code_18) rfl ?_
        refine own_iconst X36 hx (v := (1 : Int32)) (pc' := 20) rfl (hb hby d_prog_28_method_4_code_19) rfl ?_
        refine own_iadd X36 hx (v := (3 : Int32)) (pc' := 21) rfl (hb hby d_prog_28_method_4_code_20) (by decide) ?_
        refine own_callS X36 hx hZ (y := (⟨"com/example/rhoquery/rhoquery/PathKind", "nextTurn", "([III)I"⟩ : MethodName)) hown (hw _ (List.mem_of_getElem? (i := 12) rfl)) (hw _ (List.mem_of_getElem? (i := 13) rfl)) (hw _ (List.mem_of_getElem? (i := 7) rfl)) (hw _ (List.mem_of_getElem? (i := 14) rfl))  (by decide) (rm_next l Z a0 hw [] f1 t0 t1 t2 t3 t4 t2 [t3, t4] 3 a1 (5 : Int32) (3 : Int32) h0 n0 Z0 I0 hf (Or.inr (Or.inr (Or.inr (Or.inr (Or.inr (Or.inr (Or.inr (Or.inr (Or.inr (Or.inr (Or.inr (Or.inr (Or.inl ⟨rfl, rfl, rfl, rfl, rfl⟩)))))))))))))) (by decide) (W := 0) (by decide) (by decide) (by decide) e36 (by rw [hml]; rfl) (argsL := [(.ref a1), (.int (5 : Int32)), (.int (3 : Int32))]) (rest := []) rfl (lenOf pd___III_I rfl) rfl (Nat.le_of_eq rfl) (pc' := 24) rfl (hb hby d_prog_28_method_4_code_21) ?_
        rintro _ T48 L48 X48 ⟨rfl, N48, e48⟩
        have M48 := Fr.app M36 N48
        show own_Goes p e below T48 (mkF m 24 #[.val (.ref a1), .val (.int (5 : Int32)), .val (.int (2 : Int32))] [(.int (Int32.ofNat (own_nx t2 [t3, t4] 3)))]) _
        by_cases e3_49 : (own_fwd t3) = (own_fwd t2)
        · by_cases e4_50 : (own_fwd t4) = (own_fwd t3)
          · rw [show (Int32.ofNat (own_nx t2 [t3, t4] 3)) = (5 : Int32) from by first | (simp only [own_nx, if_pos e3_49, if_pos e4_50]; done) | (simp only [own_nx, if_pos e3_49, if_pos e4_50]; rfl)]
            refine own_iloadN X48 hx (pc' := 25) rfl (hb hby d_prog_28_method_4_code_24) rfl ?_
            refine own_icmpF X48 hx (pc' := 28) rfl (hb hby d_prog_28_method_4_code_25) (XT.ii_ne_f (by decide)) ?_
            refine own_getS X48 hx hZ hown (hw _ (List.mem_of_getElem? (i := 22) rfl)) Via.refl e48 I2 (pc' := 31) rfl (hb hby d_prog_28_method_4_code_28) ?_
            intro T51 X51 e51
            refine own_goto X51 hx (pc' := 37) (hb hby d_prog_28_method_4_code_31) (by decide) (by decide) ?_
            refine own_aret X51 hx hlk hret rfl rfl (hb hby d_prog_28_method_4_code_37) (by decide) (by decide) ?_
            rw [e51]
            have hT : own_tot (5 : Int32) t0 t1 t2 t3 t4 = (1 : Int32) := by first | (simp only [own_tot, own_turn, if_pos e1_37, if_neg e2_38, if_pos e3_49, if_pos e4_50]; done) | (simp only [own_tot, own_turn, if_pos e1_37, if_neg e2_38, if_pos e3_49, if_pos e4_50]; rfl)
            exact ⟨by rw [hT]; rfl, M48, rfl⟩
          · rw [show (Int32.ofNat (own_nx t2 [t3, t4] 3)) = (4 : Int32) from by first | (simp only [own_nx, if_pos e3_49, if_neg e4_50]; done) | (simp only [own_nx, if_pos e3_49, if_neg e4_50]; rfl)]
            refine own_iloadN X48 hx (pc' := 25) rfl (hb hby d_prog_28_method_4_code_24) rfl ?_
            refine own_icmpT X48 hx (pc' := 34) (hb hby d_prog_28_method_4_code_25) (XT.ii_ne_t (by decide)) (by decide) (by decide) ?_
            refine own_getS X48 hx hZ hown (hw _ (List.mem_of_getElem? (i := 19) rfl)) Via.refl e48 I3 (pc' := 37) rfl (hb hby d_prog_28_method_4_code_34) ?_
            intro T52 X52 e52
            refine own_aret X52 hx hlk hret rfl rfl (hb hby d_prog_28_method_4_code_37) (by decide) (by decide) ?_
            rw [e52]
            have hT : own_tot (5 : Int32) t0 t1 t2 t3 t4 = (2 : Int32) := by first | (simp only [own_tot, own_turn, if_pos e1_37, if_neg e2_38, if_pos e3_49, if_neg e4_50]; done) | (simp only [own_tot, own_turn, if_pos e1_37, if_neg e2_38, if_pos e3_49, if_neg e4_50]; rfl)
            exact ⟨by rw [hT]; rfl, M48, rfl⟩
        · rw [show (Int32.ofNat (own_nx t2 [t3, t4] 3)) = (3 : Int32) from by first | (simp only [own_nx, if_neg e3_49]; done) | (simp only [own_nx, if_neg e3_49]; rfl)]
          refine own_iloadN X48 hx (pc' := 25) rfl (hb hby d_prog_28_method_4_code_24) rfl ?_
          refine own_icmpT X48 hx (pc' := 34) (hb hby d_prog_28_method_4_code_25) (XT.ii_ne_t (by decide)) (by decide) (by decide) ?_
          refine own_getS X48 hx hZ hown (hw _ (List.mem_of_getElem? (i := 19) rfl)) Via.refl e48 I3 (pc' := 37) rfl (hb hby d_prog_28_method_4_code_34) ?_
          intro T53 X53 e53
          refine own_aret X53 hx hlk hret rfl rfl (hb hby d_prog_28_method_4_code_37) (by decide) (by decide) ?_
          rw [e53]
          by_cases e4_54 : (own_fwd t4) = (own_fwd t3)
          · have hT : own_tot (5 : Int32) t0 t1 t2 t3 t4 = (2 : Int32) := by first | (simp only [own_tot, own_turn, if_pos e1_37, if_neg e2_38, if_neg e3_49, if_pos e4_54]; done) | (simp only [own_tot, own_turn, if_pos e1_37, if_neg e2_38, if_neg e3_49, if_pos e4_54]; rfl)
            exact ⟨by rw [hT]; rfl, M48, rfl⟩
          · have hT : own_tot (5 : Int32) t0 t1 t2 t3 t4 = (3 : Int32) := by first | (simp only [own_tot, own_turn, if_pos e1_37, if_neg e2_38, if_neg e3_49, if_neg e4_54]; done) | (simp only [own_tot, own_turn, if_pos e1_37, if_neg e2_38, if_neg e3_49, if_neg e4_54]; rfl)
            exact ⟨by rw [hT]; rfl, M48, rfl⟩
    · rw [show (Int32.ofNat (own_nx t0 [t1, t2, t3, t4] 1)) = (1 : Int32) from by first | (simp only [own_nx, if_neg e1_37]; done) | (simp only [own_nx, if_neg e1_37]; rfl)]
      refine own_istoreN X36 hx (Ls' := #[.val (.ref a1), .val (.int (5 : Int32)), .val (.int (1 : Int32))]) (pc' := 7) rfl (hb hby d_prog_28_method_4_code_6) rfl ?_
      refine own_iloadN X36 hx (pc' := 8) rfl (hb hby d_prog_28_method_4_code_7) rfl ?_
      refine own_iloadN X36 hx (pc' := 9) rfl (hb hby d_prog_28_method_4_code_8) rfl ?_
      refine own_icmpT X36 hx (pc' := 16) (hb hby d_prog_28_method_4_code_9) (XT.ii_ne_t (by decide)) (by decide) (by decide) ?_
      refine own_aloadN X36 hx (pc' := 17) rfl (hb hby d_prog_28_method_4_code_16) rfl rfl ?_
      refine own_iloadN X36 hx (pc' := 18) rfl (hb hby d_prog_28_method_4_code_17) rfl ?_
      refine own_iloadN X36 hx (pc' := 19) rfl (hb hby d_prog_28_method_4_code_18) rfl ?_
      refine own_iconst X36 hx (v := (1 : Int32)) (pc' := 20) rfl (hb hby d_prog_28_method_4_code_19) rfl ?_
      refine own_iadd X36 hx (v := (2 : Int32)) (pc' := 21) rfl (hb hby d_prog_28_method_4_code_20) (by decide) ?_
      refine own_callS X36 hx hZ (y := (⟨"com/example/rhoquery/rhoquery/PathKind", "nextTurn", "([III)I"⟩ : MethodName)) hown (hw _ (List.mem_of_getElem? (i := 12) rfl)) (hw _ (List.mem_of_getElem? (i := 13) rfl)) (hw _ (List.mem_of_getElem? (i := 7) rfl)) (hw _ (List.mem_of_getElem? (i := 14) rfl))  (by decide) (rm_next l Z a0 hw [] f1 t0 t1 t2 t3 t4 t1 [t2, t3, t4] 2 a1 (5 : Int32) (2 : Int32) h0 n0 Z0 I0 hf (Or.inr (Or.inr (Or.inr (Or.inr (Or.inr (Or.inr (Or.inr (Or.inr (Or.inr (Or.inr (Or.inr (Or.inl ⟨rfl, rfl, rfl, rfl, rfl⟩))))))))))))) (by decide) (W := 0) (by decide) (by decide) (by decide) e36 (by rw [hml]; rfl) (argsL := [(.ref a1), (.int (5 : Int32)), (.int (2 : Int32))]) (rest := []) rfl (lenOf pd___III_I rfl) rfl (Nat.le_of_eq rfl) (pc' := 24) rfl (hb hby d_prog_28_method_4_code_21) ?_
      rintro _ T55 L55 X55 ⟨rfl, N55, e55⟩
      have M55 := Fr.app M36 N55
      show own_Goes p e below T55 (mkF m 24 #[.val (.ref a1), .val (.int (5 : Int32)), .val (.int (1 : Int32))] [(.int (Int32.ofNat (own_nx t1 [t2, t3, t4] 2)))]) _
      by_cases e2_56 : (own_fwd t2) = (own_fwd t1)
      · by_cases e3_57 : (own_fwd t3) = (own_fwd t2)
        · by_cases e4_58 : (own_fwd t4) = (own_fwd t3)
          · rw [show (Int32.ofNat (own_nx t1 [t2, t3, t4] 2)) = (5 : Int32) from by first | (simp only [own_nx, if_pos e2_56, if_pos e3_57, if_pos e4_58]; done) | (simp only [own_nx, if_pos e2_56, if_pos e3_57, if_pos e4_58]; rfl)]
            refine own_iloadN X55 hx (pc' := 25) rfl (hb hby d_prog_28_method_4_code_24) rfl ?_
            refine own_icmpF X55 hx (pc' := 28) rfl (hb hby d_prog_28_method_4_code_25) (XT.ii_ne_f (by decide)) ?_
            refine own_getS X55 hx hZ hown (hw _ (List.mem_of_getElem? (i := 22) rfl)) Via.refl e55 I2 (pc' := 31) rfl (hb hby d_prog_28_method_4_code_28) ?_
            intro T59 X59 e59
            refine own_goto X59 hx (pc' := 37) (hb hby d_prog_28_method_4_code_31) (by decide) (by decide) ?_
            refine own_aret X59 hx hlk hret rfl rfl (hb hby d_prog_28_method_4_code_37) (by decide) (by decide) ?_
            rw [e59]
            have hT : own_tot (5 : Int32) t0 t1 t2 t3 t4 = (1 : Int32) := by first | (simp only [own_tot, own_turn, if_neg e1_37, if_pos e2_56, if_pos e3_57, if_pos e4_58]; done) | (simp only [own_tot, own_turn, if_neg e1_37, if_pos e2_56, if_pos e3_57, if_pos e4_58]; rfl)
            exact ⟨by rw [hT]; rfl, M55, rfl⟩
          · rw [show (Int32.ofNat (own_nx t1 [t2, t3, t4] 2)) = (4 : Int32) from by first | (simp only [own_nx, if_pos e2_56, if_pos e3_57, if_neg e4_58]; done) | (simp only [own_nx, if_pos e2_56, if_pos e3_57, if_neg e4_58]; rfl)]
            refine own_iloadN X55 hx (pc' := 25) rfl (hb hby d_prog_28_method_4_code_24) rfl ?_
            refine own_icmpT X55 hx (pc' := 34) (hb hby d_prog_28_method_4_code_25) (XT.ii_ne_t (by decide)) (by decide) (by decide) ?_
            refine own_getS X55 hx hZ hown (hw _ (List.mem_of_getElem? (i := 19) rfl)) Via.refl e55 I3 (pc' := 37) rfl (hb hby d_prog_28_method_4_code_34) ?_
            intro T60 X60 e60
            refine own_aret X60 hx hlk hret rfl rfl (hb hby d_prog_28_method_4_code_37) (by decide) (by decide) ?_
            rw [e60]
            have hT : own_tot (5 : Int32) t0 t1 t2 t3 t4 = (2 : Int32) := by first | (simp only [own_tot, own_turn, if_neg e1_37, if_pos e2_56, if_pos e3_57, if_neg e4_58]; done) | (simp only [own_tot, own_turn, if_neg e1_37, if_pos e2_56, if_pos e3_57, if_neg e4_58]; rfl)
            exact ⟨by rw [hT]; rfl, M55, rfl⟩
        · rw [show (Int32.ofNat (own_nx t1 [t2, t3, t4] 2)) = (3 : Int32) from by first | (simp only [own_nx, if_pos e2_56, if_neg e3_57]; done) | (simp only [own_nx, if_pos e2_56, if_neg e3_57]; rfl)]
          refine own_iloadN X55 hx (pc' := 25) rfl (hb hby d_prog_28_method_4_code_24) rfl ?_
          refine own_icmpT X55 hx (pc' := 34) (hb hby d_prog_28_method_4_code_25) (XT.ii_ne_t (by decide)) (by decide) (by decide) ?_
          refine own_getS X55 hx hZ hown (hw _ (List.mem_of_getElem? (i := 19) rfl)) Via.refl e55 I3 (pc' := 37) rfl (hb hby d_prog_28_method_4_code_34) ?_
          intro T61 X61 e61
          refine own_aret X61 hx hlk hret rfl rfl (hb hby d_prog_28_method_4_code_37) (by decide) (by decide) ?_
          rw [e61]
          by_cases e4_62 : (own_fwd t4) = (own_fwd t3)
          · have hT : own_tot (5 : Int32) t0 t1 t2 t3 t4 = (2 : Int32) := by first | (simp only [own_tot, own_turn, if_neg e1_37, if_pos e2_56, if_neg e3_57, if_pos e4_62]; done) | (simp only [own_tot, own_turn, if_neg e1_37, if_pos e2_56, if_neg e3_57, if_pos e4_62]; rfl)
            exact ⟨by rw [hT]; rfl, M55, rfl⟩
          · have hT : own_tot (5 : Int32) t0 t1 t2 t3 t4 = (3 : Int32) := by first | (simp only [own_tot, own_turn, if_neg e1_37, if_pos e2_56, if_neg e3_57, if_neg e4_62]; done) | (simp only [own_tot, own_turn, if_neg e1_37, if_pos e2_56, if_neg e3_57, if_neg e4_62]; rfl)
            exact ⟨by rw [hT]; rfl, M55, rfl⟩
      · rw [show (Int32.ofNat (own_nx t1 [t2, t3, t4] 2)) = (2 : Int32) from by first | (simp only [own_nx, if_neg e2_56]; done) | (simp only [own_nx, if_neg e2_56]; rfl)]
        refine own_iloadN X55 hx (pc' := 25) rfl (hb hby d_prog_28_method_4_code_24) rfl ?_
        refine own_icmpT X55 hx (pc' := 34) (hb hby d_prog_28_method_4_code_25) (XT.ii_ne_t (by decide)) (by decide) (by decide) ?_
        refine own_getS X55 hx hZ hown (hw _ (List.mem_of_getElem? (i := 19) rfl)) Via.refl e55 I3 (pc' := 37) rfl (hb hby d_prog_28_method_4_code_34) ?_
        intro T63 X63 e63
        refine own_aret X63 hx hlk hret rfl rfl (hb hby d_prog_28_method_4_code_37) (by decide) (by decide) ?_
        rw [e63]
        by_cases e3_64 : (own_fwd t3) = (own_fwd t2)
        · by_cases e4_65 : (own_fwd t4) = (own_fwd t3)
          · have hT : own_tot (5 : Int32) t0 t1 t2 t3 t4 = (2 : Int32) := by first | (simp only [own_tot, own_turn, if_neg e1_37, if_neg e2_56, if_pos e3_64, if_pos e4_65]; done) | (simp only [own_tot, own_turn, if_neg e1_37, if_neg e2_56, if_pos e3_64, if_pos e4_65]; rfl)
            exact ⟨by rw [hT]; rfl, M55, rfl⟩
          · have hT : own_tot (5 : Int32) t0 t1 t2 t3 t4 = (3 : Int32) := by first | (simp only [own_tot, own_turn, if_neg e1_37, if_neg e2_56, if_pos e3_64, if_neg e4_65]; done) | (simp only [own_tot, own_turn, if_neg e1_37, if_neg e2_56, if_pos e3_64, if_neg e4_65]; rfl)
            exact ⟨by rw [hT]; rfl, M55, rfl⟩
        · by_cases e4_66 : (own_fwd t4) = (own_fwd t3)
          · have hT : own_tot (5 : Int32) t0 t1 t2 t3 t4 = (3 : Int32) := by first | (simp only [own_tot, own_turn, if_neg e1_37, if_neg e2_56, if_neg e3_64, if_pos e4_66]; done) | (simp only [own_tot, own_turn, if_neg e1_37, if_neg e2_56, if_neg e3_64, if_pos e4_66]; rfl)
            exact ⟨by rw [hT]; rfl, M55, rfl⟩
          · have hT : own_tot (5 : Int32) t0 t1 t2 t3 t4 = (4 : Int32) := by first | (simp only [own_tot, own_turn, if_neg e1_37, if_neg e2_56, if_neg e3_64, if_neg e4_66]; done) | (simp only [own_tot, own_turn, if_neg e1_37, if_neg e2_56, if_neg e3_64, if_neg e4_66]; rfl)
            exact ⟨by rw [hT]; rfl, M55, rfl⟩
theorem own_lenc (x : Int32) : ((1 : Int32) + ((x &&& (2147483647 : Int32)) % (5 : Int32))) = (1 : Int32) ∨ ((1 : Int32) + ((x &&& (2147483647 : Int32)) % (5 : Int32))) = (2 : Int32) ∨ ((1 : Int32) + ((x &&& (2147483647 : Int32)) % (5 : Int32))) = (3 : Int32) ∨ ((1 : Int32) + ((x &&& (2147483647 : Int32)) % (5 : Int32))) = (4 : Int32) ∨ ((1 : Int32) + ((x &&& (2147483647 : Int32)) % (5 : Int32))) = (5 : Int32) := by
  have e1 : (x &&& 2147483647).toInt = x.toInt % 2 ^ 31 := Jvm.Kit.i32_mask x 2147483647 (k := 31) (by decide) (by decide)
  have e2 : ((x &&& 2147483647) % 5).toInt = (x &&& 2147483647).toInt % (5 : Int32).toInt := Jvm.Kit.i32_rem_nonneg (by omega)
  have e3 : (5 : Int32).toInt = 5 := by decide
  have e4 : (1 : Int32).toInt = 1 := by decide
  rw [e3] at e2
  have e5 : ((1 : Int32) + ((x &&& 2147483647) % 5)).toInt = (1 : Int32).toInt + ((x &&& 2147483647) % 5).toInt := Jvm.Kit.i32_add (by omega) (by omega)
  have k : ∀ m : Int32, ((1 : Int32) + ((x &&& 2147483647) % 5)).toInt = m.toInt → ((1 : Int32) + ((x &&& 2147483647) % 5)) = m := fun m h => Int32.toInt_inj.mp h
  have h : ((1 : Int32) + ((x &&& 2147483647) % 5)).toInt = 1 ∨ ((1 : Int32) + ((x &&& 2147483647) % 5)).toInt = 2 ∨ ((1 : Int32) + ((x &&& 2147483647) % 5)).toInt = 3 ∨ ((1 : Int32) + ((x &&& 2147483647) % 5)).toInt = 4 ∨ ((1 : Int32) + ((x &&& 2147483647) % 5)).toInt = 5 := by omega
  rcases h with h | h | h | h | h
  · exact Or.inl (k 1 h)
  · exact Or.inr (Or.inl (k 2 h))
  · exact Or.inr (Or.inr (Or.inl (k 3 h)))
  · exact Or.inr (Or.inr (Or.inr (Or.inl (k 4 h))))
  · exact Or.inr (Or.inr (Or.inr (Or.inr (k 5 h))))
theorem ef_rm_law (m : MethodId) (p1 : Int32) (p2 : Int32) (p3 : Int32) (p4 : Int32) (p5 : Int32) (p6 : Int32) : entryFrame m #[(.int p1), (.int p2), (.int p3), (.int p4), (.int p5), (.int p6)] maxLocals = mkF m 0 #[.val (.int p1), .val (.int p2), .val (.int p3), .val (.int p4), .val (.int p5), .val (.int p6), .unset, .unset, .unset, .unset, .unset] [] := by first | (simp [entryFrame, mkF, argsToLocals, Value.category, maxLocals]; done) | rfl
def K_rm_law (aP : Addr) (aJ : Addr) (aC : Addr) (Z : State) (h0 : Heap) (n0 : Nat) (p1 : Int32) (p2 : Int32) (p3 : Int32) (p4 : Int32) (p5 : Int32) (p6 : Int32) (v : Option Value) (h : Heap) (L : List Loc) : Prop := v = some (.int 1) ∧ Fr n0 L
theorem pd__ZII_I : parseMethodDescriptor "(ZII)I" = some ⟨[.boolean, .int, .int], some .int⟩ := by decide +kernel
theorem pd___II_Lcom_example_rhoquery_rhoquery_PathKind_ : parseMethodDescriptor "([II)Lcom/example/rhoquery/rhoquery/PathKind;" = some ⟨[(.array .int), .int], some (.object "com/example/rhoquery/rhoquery/PathKind")⟩ := by decide +kernel
set_option maxRecDepth 65536 in
set_option maxHeartbeats 40000000 in
theorem rm_law (l : Launch) (Z : State) (a0 : Array Value) (hw : ∀ d ∈ tables_1, d.before a0 Z = true) (ws : List Jvm.Cond) (aP : Addr) (aJ : Addr) (aC : Addr) (p1 : Int32) (p2 : Int32) (p3 : Int32) (p4 : Int32) (p5 : Int32) (p6 : Int32) (h0 : Heap) (n0 : Nat) (Z0 : n0 ≤ h0.size) (S0_ : Sta Z h0 "com/example/rhoquery/rhoquery/PathKind" "PATH" "Lcom/example/rhoquery/rhoquery/PathKind;" (.ref aP)) (S1_ : Sta Z h0 "com/example/rhoquery/rhoquery/PathKind" "JOIN" "Lcom/example/rhoquery/rhoquery/PathKind;" (.ref aJ)) (S2_ : Sta Z h0 "com/example/rhoquery/rhoquery/PathKind" "CONNECTION" "Lcom/example/rhoquery/rhoquery/PathKind;" (.ref aC)) :
    MetFree l x (head1 (Jvm.Cond.code x code maxLocals ret :: ws) room_1) (fun a U => a = #[(.int p1), (.int p2), (.int p3), (.int p4), (.int p5), (.int p6)] ∧ Z.Warmed39 U.vm ∧ U.heap = h0) (fun _ _ _ _ _ => True) (fun _ U o U' => ∃ v L, o = .returned v ∧ (K_rm_law aP aJ aC Z h0 n0 p1 p2 p3 p4 p5 p6) v U'.heap L ∧ FrameEnd U o U' L room_1.cells room_1.slots) := by
  refine own_body (plainFor_of_name pn_com_example_rhoquery_rhoquery_PathKindOfPinLaw) ?_
  intro p e s m below meth c s₁ hx hby hml hown hnm hret hlk hZ X0 e0
  have hown : s.vm.findClass "com/example/rhoquery/rhoquery/PathKindOfPinLaw" = some m.cls := hown
  have N0 := Fr.nil n0
  rw [ef_rm_law m p1 p2 p3 p4 p5 p6]
  refine own_iconst X0 hx (v := (1 : Int32)) (pc' := 1) rfl (hb hby at_0) rfl ?_
  refine own_iload X0 hx (pc' := 3) rfl (hb hby at_1) rfl ?_
  refine own_ldc X0 hx hZ hown (hw _ (List.mem_of_getElem? (i := 0) rfl)) (pc' := 5) rfl (hb hby at_3) ?_
  refine own_iand X0 hx (v := (p6 &&& (2147483647 : Int32))) (pc' := 6) rfl (hb hby at_5) rfl ?_
  refine own_iconst X0 hx (v := (5 : Int32)) (pc' := 7) rfl (hb hby at_6) rfl ?_
  refine own_irem X0 hx (v := ((p6 &&& (2147483647 : Int32)) % (5 : Int32))) (pc' := 8) rfl (hb hby at_7) (by decide) rfl ?_
  refine own_iadd X0 hx (v := ((1 : Int32) + ((p6 &&& (2147483647 : Int32)) % (5 : Int32)))) (pc' := 9) rfl (hb hby at_8) rfl ?_
  have hn := own_lenc p6
  generalize ((1 : Int32) + ((p6 &&& (2147483647 : Int32)) % (5 : Int32))) = n at hn ⊢
  rcases hn with rfl | rfl | rfl | rfl | rfl
  · refine own_istore X0 hx (Ls' := #[.val (.int p1), .val (.int p2), .val (.int p3), .val (.int p4), .val (.int p5), .val (.int p6), .val (.int (1 : Int32)), .unset, .unset, .unset, .unset]) (pc' := 11) rfl (hb hby at_9) rfl ?_
    refine own_iconst X0 hx (v := (5 : Int32)) (pc' := 12) rfl (hb hby at_11) rfl ?_
    refine own_newarr X0 hx hZ (aty := .int) (hw _ (List.mem_of_getElem? (i := 1) rfl)) e0 (pc' := 14) rfl (hb hby at_12) (by decide) (N := 5) (by decide) (cap := 5) (by decide) (by decide) (by decide) (by decide) ?_
    intro T1 h1 X1 e1 E1 A1
    obtain ⟨o1, g1⟩ : ∃ z, z = h0.size := ⟨_, rfl⟩
    rw [← g1] at A1 ⊢
    have ge1 : n0 ≤ o1 := g1 ▸ Z0
    have Siz_2 := Nat.le_trans Z0 E1.1
    have Sta_3 := Sta.ext E1 S0_
    have Sta_4 := Sta.ext E1 S1_
    have Sta_5 := Sta.ext E1 S2_
    refine own_dup X1 hx (pc' := 15) rfl (hb hby at_14) rfl ?_
    refine own_iconst X1 hx (v := (0 : Int32)) (pc' := 16) rfl (hb hby at_15) rfl ?_
    refine own_iloadN X1 hx (pc' := 17) rfl (hb hby at_16) rfl ?_
    refine own_stI X1 hx hZ e1 A1 (k := 0) (by decide) (by decide) (by decide) (pc' := 18) rfl (hb hby at_17) ?_
    intro T6 h6 X6 e6 W6 A6
    have Siz_7 := own_sizWr W6 Siz_2
    have Sta_8 := Sta.wr W6 Sta_3
    have Sta_9 := Sta.wr W6 Sta_4
    have Sta_10 := Sta.wr W6 Sta_5
    have N6 := Fr.snoc X6 N0 ge1
    refine own_dup X6 hx (pc' := 19) rfl (hb hby at_18) rfl ?_
    refine own_iconst X6 hx (v := (1 : Int32)) (pc' := 20) rfl (hb hby at_19) rfl ?_
    refine own_iloadN X6 hx (pc' := 21) rfl (hb hby at_20) rfl ?_
    refine own_stI X6 hx hZ e6 A6 (k := 1) (by decide) (by decide) (by decide) (pc' := 22) rfl (hb hby at_21) ?_
    intro T12 h12 X12 e12 W12 A12
    have Siz_13 := own_sizWr W12 Siz_7
    have Sta_14 := Sta.wr W12 Sta_8
    have Sta_15 := Sta.wr W12 Sta_9
    have Sta_16 := Sta.wr W12 Sta_10
    have N12 := Fr.snoc X12 N6 ge1
    refine own_dup X12 hx (pc' := 23) rfl (hb hby at_22) rfl ?_
    refine own_iconst X12 hx (v := (2 : Int32)) (pc' := 24) rfl (hb hby at_23) rfl ?_
    refine own_iloadN X12 hx (pc' := 25) rfl (hb hby at_24) rfl ?_
    refine own_stI X12 hx hZ e12 A12 (k := 2) (by decide) (by decide) (by decide) (pc' := 26) rfl (hb hby at_25) ?_
    intro T18 h18 X18 e18 W18 A18
    have Siz_19 := own_sizWr W18 Siz_13
    have Sta_20 := Sta.wr W18 Sta_14
    have Sta_21 := Sta.wr W18 Sta_15
    have Sta_22 := Sta.wr W18 Sta_16
    have N18 := Fr.snoc X18 N12 ge1
    refine own_dup X18 hx (pc' := 27) rfl (hb hby at_26) rfl ?_
    refine own_iconst X18 hx (v := (3 : Int32)) (pc' := 28) rfl (hb hby at_27) rfl ?_
    refine own_iloadN X18 hx (pc' := 29) rfl (hb hby at_28) rfl ?_
    refine own_stI X18 hx hZ e18 A18 (k := 3) (by decide) (by decide) (by decide) (pc' := 30) rfl (hb hby at_29) ?_
    intro T24 h24 X24 e24 W24 A24
    have Siz_25 := own_sizWr W24 Siz_19
    have Sta_26 := Sta.wr W24 Sta_20
    have Sta_27 := Sta.wr W24 Sta_21
    have Sta_28 := Sta.wr W24 Sta_22
    have N24 := Fr.snoc X24 N18 ge1
    refine own_dup X24 hx (pc' := 31) rfl (hb hby at_30) rfl ?_
    refine own_iconst X24 hx (v := (4 : Int32)) (pc' := 32) rfl (hb hby at_31) rfl ?_
    refine own_iload X24 hx (pc' := 34) rfl (hb hby at_32) rfl ?_
    refine own_stI X24 hx hZ e24 A24 (k := 4) (by decide) (by decide) (by decide) (pc' := 35) rfl (hb hby at_34) ?_
    intro T30 h30 X30 e30 W30 A30
    have Siz_31 := own_sizWr W30 Siz_25
    have Sta_32 := Sta.wr W30 Sta_26
    have Sta_33 := Sta.wr W30 Sta_27
    have Sta_34 := Sta.wr W30 Sta_28
    have N30 := Fr.snoc X30 N24 ge1
    refine own_astore X30 hx (Ls' := #[.val (.int p1), .val (.int p2), .val (.int p3), .val (.int p4), .val (.int p5), .val (.int p6), .val (.int (1 : Int32)), .val (.ref o1), .unset, .unset, .unset]) (pc' := 37) rfl (hb hby at_35) rfl rfl ?_
    refine own_iload X30 hx (pc' := 39) rfl (hb hby at_37) rfl ?_
    refine own_iconst X30 hx (v := (1 : Int32)) (pc' := 40) rfl (hb hby at_39) rfl ?_
    refine own_icmpT X30 hx (pc' := 47) (hb hby at_40) (XT.ii_le_t (by decide)) (by decide) (by decide) ?_
    refine own_iconst X30 hx (v := (0 : Int32)) (pc' := 48) rfl (hb hby at_47) rfl ?_
    refine own_iloadN X30 hx (pc' := 49) rfl (hb hby at_48) rfl ?_
    refine own_iloadN X30 hx (pc' := 50) rfl (hb hby at_49) rfl ?_
    refine own_callS X30 hx hZ (y := (⟨"com/example/rhoquery/rhoquery/PathKindOfPinLaw", "turn", "(ZII)I"⟩ : MethodName)) hown (hw _ (List.mem_of_getElem? (i := 2) rfl)) (hw _ (List.mem_of_getElem? (i := 3) rfl)) (hw _ (List.mem_of_getElem? (i := 4) rfl)) (hw _ (List.mem_of_getElem? (i := 5) rfl))  (by decide) (rm_turn l Z a0 hw [] (0 : Int32) p1 p2 h30 n0 Siz_31) (by decide) (W := 0) (by decide) (by decide) (by decide) e30 (by rw [hml]; rfl) (argsL := [(.int (0 : Int32)), (.int p1), (.int p2)]) (rest := []) rfl (lenOf pd__ZII_I rfl) rfl (Nat.le_of_eq rfl) (pc' := 53) rfl (hb hby at_50) ?_
    rintro _ T36 L36 X36 ⟨rfl, N36, e36⟩
    have M36 := Fr.app N30 N36
    show own_Goes p e below T36 (mkF m 53 #[.val (.int p1), .val (.int p2), .val (.int p3), .val (.int p4), .val (.int p5), .val (.int p6), .val (.int (1 : Int32)), .val (.ref o1), .unset, .unset, .unset] [(.int (own_turn (0 : Int32) p1 p2))]) _
    refine own_iload X36 hx (pc' := 55) rfl (hb hby at_53) rfl ?_
    refine own_iconst X36 hx (v := (2 : Int32)) (pc' := 56) rfl (hb hby at_55) rfl ?_
    refine own_icmpT X36 hx (pc' := 63) (hb hby at_56) (XT.ii_le_t (by decide)) (by decide) (by decide) ?_
    refine own_iconst X36 hx (v := (0 : Int32)) (pc' := 64) rfl (hb hby at_63) rfl ?_
    refine own_iloadN X36 hx (pc' := 65) rfl (hb hby at_64) rfl ?_
    refine own_iloadN X36 hx (pc' := 66) rfl (hb hby at_65) rfl ?_
    refine own_callS X36 hx hZ (y := (⟨"com/example/rhoquery/rhoquery/PathKindOfPinLaw", "turn", "(ZII)I"⟩ : MethodName)) hown (hw _ (List.mem_of_getElem? (i := 2) rfl)) (hw _ (List.mem_of_getElem? (i := 3) rfl)) (hw _ (List.mem_of_getElem? (i := 4) rfl)) (hw _ (List.mem_of_getElem? (i := 5) rfl))  (by decide) (rm_turn l Z a0 hw [] (0 : Int32) p2 p3 h30 n0 Siz_31) (by decide) (W := 1) (by decide) (by decide) (by decide) e36 (by rw [hml]; rfl) (argsL := [(.int (0 : Int32)), (.int p2), (.int p3)]) (rest := [(.int (own_turn (0 : Int32) p1 p2))]) rfl (lenOf pd__ZII_I rfl) rfl (Nat.le_of_eq rfl) (pc' := 69) rfl (hb hby at_66) ?_
    rintro _ T37 L37 X37 ⟨rfl, N37, e37⟩
    have M37 := Fr.app M36 N37
    show own_Goes p e below T37 (mkF m 69 #[.val (.int p1), .val (.int p2), .val (.int p3), .val (.int p4), .val (.int p5), .val (.int p6), .val (.int (1 : Int32)), .val (.ref o1), .unset, .unset, .unset] [(.int (own_turn (0 : Int32) p2 p3)), (.int (own_turn (0 : Int32) p1 p2))]) _
    refine own_iadd X37 hx (v := ((own_turn (0 : Int32) p1 p2) + (own_turn (0 : Int32) p2 p3))) (pc' := 70) rfl (hb hby at_69) rfl ?_
    refine own_iload X37 hx (pc' := 72) rfl (hb hby at_70) rfl ?_
    refine own_iconst X37 hx (v := (3 : Int32)) (pc' := 73) rfl (hb hby at_72) rfl ?_
    refine own_icmpT X37 hx (pc' := 80) (hb hby at_73) (XT.ii_le_t (by decide)) (by decide) (by decide) ?_
    refine own_iconst X37 hx (v := (0 : Int32)) (pc' := 81) rfl (hb hby at_80) rfl ?_
    refine own_iloadN X37 hx (pc' := 82) rfl (hb hby at_81) rfl ?_
    refine own_iloadN X37 hx (pc' := 83) rfl (hb hby at_82) rfl ?_
    refine own_callS X37 hx hZ (y := (⟨"com/example/rhoquery/rhoquery/PathKindOfPinLaw", "turn", "(ZII)I"⟩ : MethodName)) hown (hw _ (List.mem_of_getElem? (i := 2) rfl)) (hw _ (List.mem_of_getElem? (i := 3) rfl)) (hw _ (List.mem_of_getElem? (i := 4) rfl)) (hw _ (List.mem_of_getElem? (i := 5) rfl))  (by decide) (rm_turn l Z a0 hw [] (0 : Int32) p3 p4 h30 n0 Siz_31) (by decide) (W := 1) (by decide) (by decide) (by decide) e37 (by rw [hml]; rfl) (argsL := [(.int (0 : Int32)), (.int p3), (.int p4)]) (rest := [(.int ((own_turn (0 : Int32) p1 p2) + (own_turn (0 : Int32) p2 p3)))]) rfl (lenOf pd__ZII_I rfl) rfl (Nat.le_of_eq rfl) (pc' := 86) rfl (hb hby at_83) ?_
    rintro _ T38 L38 X38 ⟨rfl, N38, e38⟩
    have M38 := Fr.app M37 N38
    show own_Goes p e below T38 (mkF m 86 #[.val (.int p1), .val (.int p2), .val (.int p3), .val (.int p4), .val (.int p5), .val (.int p6), .val (.int (1 : Int32)), .val (.ref o1), .unset, .unset, .unset] [(.int (own_turn (0 : Int32) p3 p4)), (.int ((own_turn (0 : Int32) p1 p2) + (own_turn (0 : Int32) p2 p3)))]) _
    refine own_iadd X38 hx (v := (((own_turn (0 : Int32) p1 p2) + (own_turn (0 : Int32) p2 p3)) + (own_turn (0 : Int32) p3 p4))) (pc' := 87) rfl (hb hby at_86) rfl ?_
    refine own_iload X38 hx (pc' := 89) rfl (hb hby at_87) rfl ?_
    refine own_iconst X38 hx (v := (4 : Int32)) (pc' := 90) rfl (hb hby at_89) rfl ?_
    refine own_icmpT X38 hx (pc' := 97) (hb hby at_90) (XT.ii_le_t (by decide)) (by decide) (by decide) ?_
    refine own_iconst X38 hx (v := (0 : Int32)) (pc' := 98) rfl (hb hby at_97) rfl ?_
    refine own_iloadN X38 hx (pc' := 99) rfl (hb hby at_98) rfl ?_
    refine own_iload X38 hx (pc' := 101) rfl (hb hby at_99) rfl ?_
    refine own_callS X38 hx hZ (y := (⟨"com/example/rhoquery/rhoquery/PathKindOfPinLaw", "turn", "(ZII)I"⟩ : MethodName)) hown (hw _ (List.mem_of_getElem? (i := 2) rfl)) (hw _ (List.mem_of_getElem? (i := 3) rfl)) (hw _ (List.mem_of_getElem? (i := 4) rfl)) (hw _ (List.mem_of_getElem? (i := 5) rfl))  (by decide) (rm_turn l Z a0 hw [] (0 : Int32) p4 p5 h30 n0 Siz_31) (by decide) (W := 1) (by decide) (by decide) (by decide) e38 (by rw [hml]; rfl) (argsL := [(.int (0 : Int32)), (.int p4), (.int p5)]) (rest := [(.int (((own_turn (0 : Int32) p1 p2) + (own_turn (0 : Int32) p2 p3)) + (own_turn (0 : Int32) p3 p4)))]) rfl (lenOf pd__ZII_I rfl) rfl (Nat.le_of_eq rfl) (pc' := 104) rfl (hb hby at_101) ?_
    rintro _ T39 L39 X39 ⟨rfl, N39, e39⟩
    have M39 := Fr.app M38 N39
    show own_Goes p e below T39 (mkF m 104 #[.val (.int p1), .val (.int p2), .val (.int p3), .val (.int p4), .val (.int p5), .val (.int p6), .val (.int (1 : Int32)), .val (.ref o1), .unset, .unset, .unset] [(.int (own_turn (0 : Int32) p4 p5)), (.int (((own_turn (0 : Int32) p1 p2) + (own_turn (0 : Int32) p2 p3)) + (own_turn (0 : Int32) p3 p4)))]) _
    refine own_iadd X39 hx (v := ((((own_turn (0 : Int32) p1 p2) + (own_turn (0 : Int32) p2 p3)) + (own_turn (0 : Int32) p3 p4)) + (own_turn (0 : Int32) p4 p5))) (pc' := 105) rfl (hb hby at_104) rfl ?_
    have hT : own_tot (1 : Int32) p1 p2 p3 p4 p5 = ((((own_turn (0 : Int32) p1 p2) + (own_turn (0 : Int32) p2 p3)) + (own_turn (0 : Int32) p3 p4)) + (own_turn (0 : Int32) p4 p5)) := rfl
    generalize ((((own_turn (0 : Int32) p1 p2) + (own_turn (0 : Int32) p2 p3)) + (own_turn (0 : Int32) p3 p4)) + (own_turn (0 : Int32) p4 p5)) = T at hT ⊢
    refine own_istore X39 hx (Ls' := #[.val (.int p1), .val (.int p2), .val (.int p3), .val (.int p4), .val (.int p5), .val (.int p6), .val (.int (1 : Int32)), .val (.ref o1), .val (.int T), .unset, .unset]) (pc' := 107) rfl (hb hby at_105) rfl ?_
    refine own_iload X39 hx (pc' := 109) rfl (hb hby at_107) rfl ?_
    by_cases c109_40 : T = 0
    · refine own_ifF X39 hx (pc' := 112) rfl (hb hby at_109) (XT.i0_ne_f c109_40) ?_
      refine own_getS X39 hx hZ hown (hw _ (List.mem_of_getElem? (i := 23) rfl)) Via.refl e39 Sta_32 (pc' := 115) rfl (hb hby at_112) ?_
      intro T41 X41 e41
      refine own_astore X41 hx (Ls' := #[.val (.int p1), .val (.int p2), .val (.int p3), .val (.int p4), .val (.int p5), .val (.int p6), .val (.int (1 : Int32)), .val (.ref o1), .val (.int T), .val (.ref aP), .unset]) (pc' := 117) rfl (hb hby at_115) rfl rfl ?_
      refine own_goto X41 hx (pc' := 139) (hb hby at_117) (by decide) (by decide) ?_
      refine own_aload X41 hx (pc' := 141) rfl (hb hby at_139) rfl rfl ?_
      refine own_iload X41 hx (pc' := 143) rfl (hb hby at_141) rfl ?_
      refine own_callS X41 hx hZ (y := (⟨"com/example/rhoquery/rhoquery/PathKind", "of", "([II)Lcom/example/rhoquery/rhoquery/PathKind;"⟩ : MethodName)) hown (hw _ (List.mem_of_getElem? (i := 9) rfl)) (hw _ (List.mem_of_getElem? (i := 10) rfl)) (hw _ (List.mem_of_getElem? (i := 7) rfl)) (hw _ (List.mem_of_getElem? (i := 11) rfl))  (by decide) (rm_of l Z a0 hw [] (own_upd (own_upd (own_upd (own_upd (own_upd (fun _ => (.int (0 : Int32))) 0 (.int p1)) 1 (.int p2)) 2 (.int p3)) 3 (.int p4)) 4 (.int p5)) p1 p2 p3 p4 p5 aP aJ aC o1 (1 : Int32) h30 n0 Siz_31 A30 Sta_32 Sta_33 Sta_34 ⟨rfl, rfl, rfl, rfl, rfl⟩ (by decide)) (by decide) (W := 0) (by decide) (by decide) (by decide) e41 (by rw [hml]; rfl) (argsL := [(.ref o1), (.int (1 : Int32))]) (rest := []) rfl (lenOf pd___II_Lcom_example_rhoquery_rhoquery_PathKind_ rfl) rfl (Nat.le_of_eq rfl) (pc' := 146) rfl (hb hby at_143) ?_
      rintro _ T42 L42 X42 ⟨rfl, N42, e42⟩
      have M42 := Fr.app M39 N42
      show own_Goes p e below T42 (mkF m 146 #[.val (.int p1), .val (.int p2), .val (.int p3), .val (.int p4), .val (.int p5), .val (.int p6), .val (.int (1 : Int32)), .val (.ref o1), .val (.int T), .val (.ref aP), .unset] [(.ref (own_sel (own_tot (1 : Int32) p1 p2 p3 p4 p5) aP aJ aC))]) _
      rw [show (own_sel (own_tot (1 : Int32) p1 p2 p3 p4 p5) aP aJ aC) = aP from by rw [hT]; simp only [own_sel, if_pos c109_40]]
      refine own_astore X42 hx (Ls' := #[.val (.int p1), .val (.int p2), .val (.int p3), .val (.int p4), .val (.int p5), .val (.int p6), .val (.int (1 : Int32)), .val (.ref o1), .val (.int T), .val (.ref aP), .val (.ref aP)]) (pc' := 148) rfl (hb hby at_146) rfl rfl ?_
      refine own_aload X42 hx (pc' := 150) rfl (hb hby at_148) rfl rfl ?_
      refine own_aload X42 hx (pc' := 152) rfl (hb hby at_150) rfl rfl ?_
      refine own_acmpF X42 hx (pc' := 155) rfl (hb hby at_152) rfl rfl (XT.aa_ne_f rfl) ?_
      refine own_iconst X42 hx (v := (1 : Int32)) (pc' := 156) rfl (hb hby at_155) rfl ?_
      refine own_goto X42 hx (pc' := 160) (hb hby at_156) (by decide) (by decide) ?_
      refine own_zret X42 hx hlk hret (by simp) (hb hby at_160) (by decide) (by decide) ?_
      rw [e42]
      exact ⟨rfl, M42⟩
    · refine own_ifT X39 hx (pc' := 120) (hb hby at_109) (XT.i0_ne_t c109_40) (by decide) (by decide) ?_
      refine own_iload X39 hx (pc' := 122) rfl (hb hby at_120) rfl ?_
      refine own_iconst X39 hx (v := (1 : Int32)) (pc' := 123) rfl (hb hby at_122) rfl ?_
      by_cases c123_43 : T = (1 : Int32)
      · refine own_icmpF X39 hx (pc' := 126) rfl (hb hby at_123) (XT.ii_ne_f c123_43) ?_
        refine own_getS X39 hx hZ hown (hw _ (List.mem_of_getElem? (i := 20) rfl)) Via.refl e39 Sta_33 (pc' := 129) rfl (hb hby at_126) ?_
        intro T44 X44 e44
        refine own_astore X44 hx (Ls' := #[.val (.int p1), .val (.int p2), .val (.int p3), .val (.int p4), .val (.int p5), .val (.int p6), .val (.int (1 : Int32)), .val (.ref o1), .val (.int T), .val (.ref aJ), .unset]) (pc' := 131) rfl (hb hby at_129) rfl rfl ?_
        refine own_goto X44 hx (pc' := 139) (hb hby at_131) (by decide) (by decide) ?_
        refine own_aload X44 hx (pc' := 141) rfl (hb hby at_139) rfl rfl ?_
        refine own_iload X44 hx (pc' := 143) rfl (hb hby at_141) rfl ?_
        refine own_callS X44 hx hZ (y := (⟨"com/example/rhoquery/rhoquery/PathKind", "of", "([II)Lcom/example/rhoquery/rhoquery/PathKind;"⟩ : MethodName)) hown (hw _ (List.mem_of_getElem? (i := 9) rfl)) (hw _ (List.mem_of_getElem? (i := 10) rfl)) (hw _ (List.mem_of_getElem? (i := 7) rfl)) (hw _ (List.mem_of_getElem? (i := 11) rfl))  (by decide) (rm_of l Z a0 hw [] (own_upd (own_upd (own_upd (own_upd (own_upd (fun _ => (.int (0 : Int32))) 0 (.int p1)) 1 (.int p2)) 2 (.int p3)) 3 (.int p4)) 4 (.int p5)) p1 p2 p3 p4 p5 aP aJ aC o1 (1 : Int32) h30 n0 Siz_31 A30 Sta_32 Sta_33 Sta_34 ⟨rfl, rfl, rfl, rfl, rfl⟩ (by decide)) (by decide) (W := 0) (by decide) (by decide) (by decide) e44 (by rw [hml]; rfl) (argsL := [(.ref o1), (.int (1 : Int32))]) (rest := []) rfl (lenOf pd___II_Lcom_example_rhoquery_rhoquery_PathKind_ rfl) rfl (Nat.le_of_eq rfl) (pc' := 146) rfl (hb hby at_143) ?_
        rintro _ T45 L45 X45 ⟨rfl, N45, e45⟩
        have M45 := Fr.app M39 N45
        show own_Goes p e below T45 (mkF m 146 #[.val (.int p1), .val (.int p2), .val (.int p3), .val (.int p4), .val (.int p5), .val (.int p6), .val (.int (1 : Int32)), .val (.ref o1), .val (.int T), .val (.ref aJ), .unset] [(.ref (own_sel (own_tot (1 : Int32) p1 p2 p3 p4 p5) aP aJ aC))]) _
        rw [show (own_sel (own_tot (1 : Int32) p1 p2 p3 p4 p5) aP aJ aC) = aJ from by rw [hT]; simp only [own_sel, if_neg c109_40, if_pos c123_43]]
        refine own_astore X45 hx (Ls' := #[.val (.int p1), .val (.int p2), .val (.int p3), .val (.int p4), .val (.int p5), .val (.int p6), .val (.int (1 : Int32)), .val (.ref o1), .val (.int T), .val (.ref aJ), .val (.ref aJ)]) (pc' := 148) rfl (hb hby at_146) rfl rfl ?_
        refine own_aload X45 hx (pc' := 150) rfl (hb hby at_148) rfl rfl ?_
        refine own_aload X45 hx (pc' := 152) rfl (hb hby at_150) rfl rfl ?_
        refine own_acmpF X45 hx (pc' := 155) rfl (hb hby at_152) rfl rfl (XT.aa_ne_f rfl) ?_
        refine own_iconst X45 hx (v := (1 : Int32)) (pc' := 156) rfl (hb hby at_155) rfl ?_
        refine own_goto X45 hx (pc' := 160) (hb hby at_156) (by decide) (by decide) ?_
        refine own_zret X45 hx hlk hret (by simp) (hb hby at_160) (by decide) (by decide) ?_
        rw [e45]
        exact ⟨rfl, M45⟩
      · refine own_icmpT X39 hx (pc' := 134) (hb hby at_123) (XT.ii_ne_t c123_43) (by decide) (by decide) ?_
        refine own_getS X39 hx hZ hown (hw _ (List.mem_of_getElem? (i := 6) rfl)) Via.refl e39 Sta_34 (pc' := 137) rfl (hb hby at_134) ?_
        intro T46 X46 e46
        refine own_astore X46 hx (Ls' := #[.val (.int p1), .val (.int p2), .val (.int p3), .val (.int p4), .val (.int p5), .val (.int p6), .val (.int (1 : Int32)), .val (.ref o1), .val (.int T), .val (.ref aC), .unset]) (pc' := 139) rfl (hb hby at_137) rfl rfl ?_
        refine own_aload X46 hx (pc' := 141) rfl (hb hby at_139) rfl rfl ?_
        refine own_iload X46 hx (pc' := 143) rfl (hb hby at_141) rfl ?_
        refine own_callS X46 hx hZ (y := (⟨"com/example/rhoquery/rhoquery/PathKind", "of", "([II)Lcom/example/rhoquery/rhoquery/PathKind;"⟩ : MethodName)) hown (hw _ (List.mem_of_getElem? (i := 9) rfl)) (hw _ (List.mem_of_getElem? (i := 10) rfl)) (hw _ (List.mem_of_getElem? (i := 7) rfl)) (hw _ (List.mem_of_getElem? (i := 11) rfl))  (by decide) (rm_of l Z a0 hw [] (own_upd (own_upd (own_upd (own_upd (own_upd (fun _ => (.int (0 : Int32))) 0 (.int p1)) 1 (.int p2)) 2 (.int p3)) 3 (.int p4)) 4 (.int p5)) p1 p2 p3 p4 p5 aP aJ aC o1 (1 : Int32) h30 n0 Siz_31 A30 Sta_32 Sta_33 Sta_34 ⟨rfl, rfl, rfl, rfl, rfl⟩ (by decide)) (by decide) (W := 0) (by decide) (by decide) (by decide) e46 (by rw [hml]; rfl) (argsL := [(.ref o1), (.int (1 : Int32))]) (rest := []) rfl (lenOf pd___II_Lcom_example_rhoquery_rhoquery_PathKind_ rfl) rfl (Nat.le_of_eq rfl) (pc' := 146) rfl (hb hby at_143) ?_
        rintro _ T47 L47 X47 ⟨rfl, N47, e47⟩
        have M47 := Fr.app M39 N47
        show own_Goes p e below T47 (mkF m 146 #[.val (.int p1), .val (.int p2), .val (.int p3), .val (.int p4), .val (.int p5), .val (.int p6), .val (.int (1 : Int32)), .val (.ref o1), .val (.int T), .val (.ref aC), .unset] [(.ref (own_sel (own_tot (1 : Int32) p1 p2 p3 p4 p5) aP aJ aC))]) _
        rw [show (own_sel (own_tot (1 : Int32) p1 p2 p3 p4 p5) aP aJ aC) = aC from by rw [hT]; simp only [own_sel, if_neg c109_40, if_neg c123_43]]
        refine own_astore X47 hx (Ls' := #[.val (.int p1), .val (.int p2), .val (.int p3), .val (.int p4), .val (.int p5), .val (.int p6), .val (.int (1 : Int32)), .val (.ref o1), .val (.int T), .val (.ref aC), .val (.ref aC)]) (pc' := 148) rfl (hb hby at_146) rfl rfl ?_
        refine own_aload X47 hx (pc' := 150) rfl (hb hby at_148) rfl rfl ?_
        refine own_aload X47 hx (pc' := 152) rfl (hb hby at_150) rfl rfl ?_
        refine own_acmpF X47 hx (pc' := 155) rfl (hb hby at_152) rfl rfl (XT.aa_ne_f rfl) ?_
        refine own_iconst X47 hx (v := (1 : Int32)) (pc' := 156) rfl (hb hby at_155) rfl ?_
        refine own_goto X47 hx (pc' := 160) (hb hby at_156) (by decide) (by decide) ?_
        refine own_zret X47 hx hlk hret (by simp) (hb hby at_160) (by decide) (by decide) ?_
        rw [e47]
        exact ⟨rfl, M47⟩
  · refine own_istore X0 hx (Ls' := #[.val (.int p1), .val (.int p2), .val (.int p3), .val (.int p4), .val (.int p5), .val (.int p6), .val (.int (2 : Int32)), .unset, .unset, .unset, .unset]) (pc' := 11) rfl (hb hby at_9) rfl ?_
    refine own_iconst X0 hx (v := (5 : Int32)) (pc' := 12) rfl (hb hby at_11) rfl ?_
    refine own_newarr X0 hx hZ (aty := .int) (hw _ (List.mem_of_getElem? (i := 1) rfl)) e0 (pc' := 14) rfl (hb hby at_12) (by decide) (N := 5) (by decide) (cap := 5) (by decide) (by decide) (by decide) (by decide) ?_
    intro T48 h48 X48 e48 E48 A48
    obtain ⟨o48, g48⟩ : ∃ z, z = h0.size := ⟨_, rfl⟩
    rw [← g48] at A48 ⊢
    have ge48 : n0 ≤ o48 := g48 ▸ Z0
    have Siz_49 := Nat.le_trans Z0 E48.1
    have Sta_50 := Sta.ext E48 S0_
    have Sta_51 := Sta.ext E48 S1_
    have Sta_52 := Sta.ext E48 S2_
    refine own_dup X48 hx (pc' := 15) rfl (hb hby at_14) rfl ?_
    refine own_iconst X48 hx (v := (0 : Int32)) (pc' := 16) rfl (hb hby at_15) rfl ?_
    refine own_iloadN X48 hx (pc' := 17) rfl (hb hby at_16) rfl ?_
    refine own_stI X48 hx hZ e48 A48 (k := 0) (by decide) (by decide) (by decide) (pc' := 18) rfl (hb hby at_17) ?_
    intro T53 h53 X53 e53 W53 A53
    have Siz_54 := own_sizWr W53 Siz_49
    have Sta_55 := Sta.wr W53 Sta_50
    have Sta_56 := Sta.wr W53 Sta_51
    have Sta_57 := Sta.wr W53 Sta_52
    have N53 := Fr.snoc X53 N0 ge48
    refine own_dup X53 hx (pc' := 19) rfl (hb hby at_18) rfl ?_
    refine own_iconst X53 hx (v := (1 : Int32)) (pc' := 20) rfl (hb hby at_19) rfl ?_
    refine own_iloadN X53 hx (pc' := 21) rfl (hb hby at_20) rfl ?_
    refine own_stI X53 hx hZ e53 A53 (k := 1) (by decide) (by decide) (by decide) (pc' := 22) rfl (hb hby at_21) ?_
    intro T59 h59 X59 e59 W59 A59
    have Siz_60 := own_sizWr W59 Siz_54
    have Sta_61 := Sta.wr W59 Sta_55
    have Sta_62 := Sta.wr W59 Sta_56
    have Sta_63 := Sta.wr W59 Sta_57
    have N59 := Fr.snoc X59 N53 ge48
    refine own_dup X59 hx (pc' := 23) rfl (hb hby at_22) rfl ?_
    refine own_iconst X59 hx (v := (2 : Int32)) (pc' := 24) rfl (hb hby at_23) rfl ?_
    refine own_iloadN X59 hx (pc' := 25) rfl (hb hby at_24) rfl ?_
    refine own_stI X59 hx hZ e59 A59 (k := 2) (by decide) (by decide) (by decide) (pc' := 26) rfl (hb hby at_25) ?_
    intro T65 h65 X65 e65 W65 A65
    have Siz_66 := own_sizWr W65 Siz_60
    have Sta_67 := Sta.wr W65 Sta_61
    have Sta_68 := Sta.wr W65 Sta_62
    have Sta_69 := Sta.wr W65 Sta_63
    have N65 := Fr.snoc X65 N59 ge48
    refine own_dup X65 hx (pc' := 27) rfl (hb hby at_26) rfl ?_
    refine own_iconst X65 hx (v := (3 : Int32)) (pc' := 28) rfl (hb hby at_27) rfl ?_
    refine own_iloadN X65 hx (pc' := 29) rfl (hb hby at_28) rfl ?_
    refine own_stI X65 hx hZ e65 A65 (k := 3) (by decide) (by decide) (by decide) (pc' := 30) rfl (hb hby at_29) ?_
    intro T71 h71 X71 e71 W71 A71
    have Siz_72 := own_sizWr W71 Siz_66
    have Sta_73 := Sta.wr W71 Sta_67
    have Sta_74 := Sta.wr W71 Sta_68
    have Sta_75 := Sta.wr W71 Sta_69
    have N71 := Fr.snoc X71 N65 ge48
    refine own_dup X71 hx (pc' := 31) rfl (hb hby at_30) rfl ?_
    refine own_iconst X71 hx (v := (4 : Int32)) (pc' := 32) rfl (hb hby at_31) rfl ?_
    refine own_iload X71 hx (pc' := 34) rfl (hb hby at_32) rfl ?_
    refine own_stI X71 hx hZ e71 A71 (k := 4) (by decide) (by decide) (by decide) (pc' := 35) rfl (hb hby at_34) ?_
    intro T77 h77 X77 e77 W77 A77
    have Siz_78 := own_sizWr W77 Siz_72
    have Sta_79 := Sta.wr W77 Sta_73
    have Sta_80 := Sta.wr W77 Sta_74
    have Sta_81 := Sta.wr W77 Sta_75
    have N77 := Fr.snoc X77 N71 ge48
    refine own_astore X77 hx (Ls' := #[.val (.int p1), .val (.int p2), .val (.int p3), .val (.int p4), .val (.int p5), .val (.int p6), .val (.int (2 : Int32)), .val (.ref o48), .unset, .unset, .unset]) (pc' := 37) rfl (hb hby at_35) rfl rfl ?_
    refine own_iload X77 hx (pc' := 39) rfl (hb hby at_37) rfl ?_
    refine own_iconst X77 hx (v := (1 : Int32)) (pc' := 40) rfl (hb hby at_39) rfl ?_
    refine own_icmpF X77 hx (pc' := 43) rfl (hb hby at_40) (XT.ii_le_f (by decide)) ?_
    refine own_iconst X77 hx (v := (1 : Int32)) (pc' := 44) rfl (hb hby at_43) rfl ?_
    refine own_goto X77 hx (pc' := 48) (hb hby at_44) (by decide) (by decide) ?_
    refine own_iloadN X77 hx (pc' := 49) rfl (hb hby at_48) rfl ?_
    refine own_iloadN X77 hx (pc' := 50) rfl (hb hby at_49) rfl ?_
    refine own_callS X77 hx hZ (y := (⟨"com/example/rhoquery/rhoquery/PathKindOfPinLaw", "turn", "(ZII)I"⟩ : MethodName)) hown (hw _ (List.mem_of_getElem? (i := 2) rfl)) (hw _ (List.mem_of_getElem? (i := 3) rfl)) (hw _ (List.mem_of_getElem? (i := 4) rfl)) (hw _ (List.mem_of_getElem? (i := 5) rfl))  (by decide) (rm_turn l Z a0 hw [] (1 : Int32) p1 p2 h77 n0 Siz_78) (by decide) (W := 0) (by decide) (by decide) (by decide) e77 (by rw [hml]; rfl) (argsL := [(.int (1 : Int32)), (.int p1), (.int p2)]) (rest := []) rfl (lenOf pd__ZII_I rfl) rfl (Nat.le_of_eq rfl) (pc' := 53) rfl (hb hby at_50) ?_
    rintro _ T83 L83 X83 ⟨rfl, N83, e83⟩
    have M83 := Fr.app N77 N83
    show own_Goes p e below T83 (mkF m 53 #[.val (.int p1), .val (.int p2), .val (.int p3), .val (.int p4), .val (.int p5), .val (.int p6), .val (.int (2 : Int32)), .val (.ref o48), .unset, .unset, .unset] [(.int (own_turn (1 : Int32) p1 p2))]) _
    refine own_iload X83 hx (pc' := 55) rfl (hb hby at_53) rfl ?_
    refine own_iconst X83 hx (v := (2 : Int32)) (pc' := 56) rfl (hb hby at_55) rfl ?_
    refine own_icmpT X83 hx (pc' := 63) (hb hby at_56) (XT.ii_le_t (by decide)) (by decide) (by decide) ?_
    refine own_iconst X83 hx (v := (0 : Int32)) (pc' := 64) rfl (hb hby at_63) rfl ?_
    refine own_iloadN X83 hx (pc' := 65) rfl (hb hby at_64) rfl ?_
    refine own_iloadN X83 hx (pc' := 66) rfl (hb hby at_65) rfl ?_
    refine own_callS X83 hx hZ (y := (⟨"com/example/rhoquery/rhoquery/PathKindOfPinLaw", "turn", "(ZII)I"⟩ : MethodName)) hown (hw _ (List.mem_of_getElem? (i := 2) rfl)) (hw _ (List.mem_of_getElem? (i := 3) rfl)) (hw _ (List.mem_of_getElem? (i := 4) rfl)) (hw _ (List.mem_of_getElem? (i := 5) rfl))  (by decide) (rm_turn l Z a0 hw [] (0 : Int32) p2 p3 h77 n0 Siz_78) (by decide) (W := 1) (by decide) (by decide) (by decide) e83 (by rw [hml]; rfl) (argsL := [(.int (0 : Int32)), (.int p2), (.int p3)]) (rest := [(.int (own_turn (1 : Int32) p1 p2))]) rfl (lenOf pd__ZII_I rfl) rfl (Nat.le_of_eq rfl) (pc' := 69) rfl (hb hby at_66) ?_
    rintro _ T84 L84 X84 ⟨rfl, N84, e84⟩
    have M84 := Fr.app M83 N84
    show own_Goes p e below T84 (mkF m 69 #[.val (.int p1), .val (.int p2), .val (.int p3), .val (.int p4), .val (.int p5), .val (.int p6), .val (.int (2 : Int32)), .val (.ref o48), .unset, .unset, .unset] [(.int (own_turn (0 : Int32) p2 p3)), (.int (own_turn (1 : Int32) p1 p2))]) _
    refine own_iadd X84 hx (v := ((own_turn (1 : Int32) p1 p2) + (own_turn (0 : Int32) p2 p3))) (pc' := 70) rfl (hb hby at_69) rfl ?_
    refine own_iload X84 hx (pc' := 72) rfl (hb hby at_70) rfl ?_
    refine own_iconst X84 hx (v := (3 : Int32)) (pc' := 73) rfl (hb hby at_72) rfl ?_
    refine own_icmpT X84 hx (pc' := 80) (hb hby at_73) (XT.ii_le_t (by decide)) (by decide) (by decide) ?_
    refine own_iconst X84 hx (v := (0 : Int32)) (pc' := 81) rfl (hb hby at_80) rfl ?_
    refine own_iloadN X84 hx (pc' := 82) rfl (hb hby at_81) rfl ?_
    refine own_iloadN X84 hx (pc' := 83) rfl (hb hby at_82) rfl ?_
    refine own_callS X84 hx hZ (y := (⟨"com/example/rhoquery/rhoquery/PathKindOfPinLaw", "turn", "(ZII)I"⟩ : MethodName)) hown (hw _ (List.mem_of_getElem? (i := 2) rfl)) (hw _ (List.mem_of_getElem? (i := 3) rfl)) (hw _ (List.mem_of_getElem? (i := 4) rfl)) (hw _ (List.mem_of_getElem? (i := 5) rfl))  (by decide) (rm_turn l Z a0 hw [] (0 : Int32) p3 p4 h77 n0 Siz_78) (by decide) (W := 1) (by decide) (by decide) (by decide) e84 (by rw [hml]; rfl) (argsL := [(.int (0 : Int32)), (.int p3), (.int p4)]) (rest := [(.int ((own_turn (1 : Int32) p1 p2) + (own_turn (0 : Int32) p2 p3)))]) rfl (lenOf pd__ZII_I rfl) rfl (Nat.le_of_eq rfl) (pc' := 86) rfl (hb hby at_83) ?_
    rintro _ T85 L85 X85 ⟨rfl, N85, e85⟩
    have M85 := Fr.app M84 N85
    show own_Goes p e below T85 (mkF m 86 #[.val (.int p1), .val (.int p2), .val (.int p3), .val (.int p4), .val (.int p5), .val (.int p6), .val (.int (2 : Int32)), .val (.ref o48), .unset, .unset, .unset] [(.int (own_turn (0 : Int32) p3 p4)), (.int ((own_turn (1 : Int32) p1 p2) + (own_turn (0 : Int32) p2 p3)))]) _
    refine own_iadd X85 hx (v := (((own_turn (1 : Int32) p1 p2) + (own_turn (0 : Int32) p2 p3)) + (own_turn (0 : Int32) p3 p4))) (pc' := 87) rfl (hb hby at_86) rfl ?_
    refine own_iload X85 hx (pc' := 89) rfl (hb hby at_87) rfl ?_
    refine own_iconst X85 hx (v := (4 : Int32)) (pc' := 90) rfl (hb hby at_89) rfl ?_
    refine own_icmpT X85 hx (pc' := 97) (hb hby at_90) (XT.ii_le_t (by decide)) (by decide) (by decide) ?_
    refine own_iconst X85 hx (v := (0 : Int32)) (pc' := 98) rfl (hb hby at_97) rfl ?_
    refine own_iloadN X85 hx (pc' := 99) rfl (hb hby at_98) rfl ?_
    refine own_iload X85 hx (pc' := 101) rfl (hb hby at_99) rfl ?_
    refine own_callS X85 hx hZ (y := (⟨"com/example/rhoquery/rhoquery/PathKindOfPinLaw", "turn", "(ZII)I"⟩ : MethodName)) hown (hw _ (List.mem_of_getElem? (i := 2) rfl)) (hw _ (List.mem_of_getElem? (i := 3) rfl)) (hw _ (List.mem_of_getElem? (i := 4) rfl)) (hw _ (List.mem_of_getElem? (i := 5) rfl))  (by decide) (rm_turn l Z a0 hw [] (0 : Int32) p4 p5 h77 n0 Siz_78) (by decide) (W := 1) (by decide) (by decide) (by decide) e85 (by rw [hml]; rfl) (argsL := [(.int (0 : Int32)), (.int p4), (.int p5)]) (rest := [(.int (((own_turn (1 : Int32) p1 p2) + (own_turn (0 : Int32) p2 p3)) + (own_turn (0 : Int32) p3 p4)))]) rfl (lenOf pd__ZII_I rfl) rfl (Nat.le_of_eq rfl) (pc' := 104) rfl (hb hby at_101) ?_
    rintro _ T86 L86 X86 ⟨rfl, N86, e86⟩
    have M86 := Fr.app M85 N86
    show own_Goes p e below T86 (mkF m 104 #[.val (.int p1), .val (.int p2), .val (.int p3), .val (.int p4), .val (.int p5), .val (.int p6), .val (.int (2 : Int32)), .val (.ref o48), .unset, .unset, .unset] [(.int (own_turn (0 : Int32) p4 p5)), (.int (((own_turn (1 : Int32) p1 p2) + (own_turn (0 : Int32) p2 p3)) + (own_turn (0 : Int32) p3 p4)))]) _
    refine own_iadd X86 hx (v := ((((own_turn (1 : Int32) p1 p2) + (own_turn (0 : Int32) p2 p3)) + (own_turn (0 : Int32) p3 p4)) + (own_turn (0 : Int32) p4 p5))) (pc' := 105) rfl (hb hby at_104) rfl ?_
    have hT : own_tot (2 : Int32) p1 p2 p3 p4 p5 = ((((own_turn (1 : Int32) p1 p2) + (own_turn (0 : Int32) p2 p3)) + (own_turn (0 : Int32) p3 p4)) + (own_turn (0 : Int32) p4 p5)) := rfl
    generalize ((((own_turn (1 : Int32) p1 p2) + (own_turn (0 : Int32) p2 p3)) + (own_turn (0 : Int32) p3 p4)) + (own_turn (0 : Int32) p4 p5)) = T at hT ⊢
    refine own_istore X86 hx (Ls' := #[.val (.int p1), .val (.int p2), .val (.int p3), .val (.int p4), .val (.int p5), .val (.int p6), .val (.int (2 : Int32)), .val (.ref o48), .val (.int T), .unset, .unset]) (pc' := 107) rfl (hb hby at_105) rfl ?_
    refine own_iload X86 hx (pc' := 109) rfl (hb hby at_107) rfl ?_
    by_cases c109_87 : T = 0
    · refine own_ifF X86 hx (pc' := 112) rfl (hb hby at_109) (XT.i0_ne_f c109_87) ?_
      refine own_getS X86 hx hZ hown (hw _ (List.mem_of_getElem? (i := 23) rfl)) Via.refl e86 Sta_79 (pc' := 115) rfl (hb hby at_112) ?_
      intro T88 X88 e88
      refine own_astore X88 hx (Ls' := #[.val (.int p1), .val (.int p2), .val (.int p3), .val (.int p4), .val (.int p5), .val (.int p6), .val (.int (2 : Int32)), .val (.ref o48), .val (.int T), .val (.ref aP), .unset]) (pc' := 117) rfl (hb hby at_115) rfl rfl ?_
      refine own_goto X88 hx (pc' := 139) (hb hby at_117) (by decide) (by decide) ?_
      refine own_aload X88 hx (pc' := 141) rfl (hb hby at_139) rfl rfl ?_
      refine own_iload X88 hx (pc' := 143) rfl (hb hby at_141) rfl ?_
      refine own_callS X88 hx hZ (y := (⟨"com/example/rhoquery/rhoquery/PathKind", "of", "([II)Lcom/example/rhoquery/rhoquery/PathKind;"⟩ : MethodName)) hown (hw _ (List.mem_of_getElem? (i := 9) rfl)) (hw _ (List.mem_of_getElem? (i := 10) rfl)) (hw _ (List.mem_of_getElem? (i := 7) rfl)) (hw _ (List.mem_of_getElem? (i := 11) rfl))  (by decide) (rm_of l Z a0 hw [] (own_upd (own_upd (own_upd (own_upd (own_upd (fun _ => (.int (0 : Int32))) 0 (.int p1)) 1 (.int p2)) 2 (.int p3)) 3 (.int p4)) 4 (.int p5)) p1 p2 p3 p4 p5 aP aJ aC o48 (2 : Int32) h77 n0 Siz_78 A77 Sta_79 Sta_80 Sta_81 ⟨rfl, rfl, rfl, rfl, rfl⟩ (by decide)) (by decide) (W := 0) (by decide) (by decide) (by decide) e88 (by rw [hml]; rfl) (argsL := [(.ref o48), (.int (2 : Int32))]) (rest := []) rfl (lenOf pd___II_Lcom_example_rhoquery_rhoquery_PathKind_ rfl) rfl (Nat.le_of_eq rfl) (pc' := 146) rfl (hb hby at_143) ?_
      rintro _ T89 L89 X89 ⟨rfl, N89, e89⟩
      have M89 := Fr.app M86 N89
      show own_Goes p e below T89 (mkF m 146 #[.val (.int p1), .val (.int p2), .val (.int p3), .val (.int p4), .val (.int p5), .val (.int p6), .val (.int (2 : Int32)), .val (.ref o48), .val (.int T), .val (.ref aP), .unset] [(.ref (own_sel (own_tot (2 : Int32) p1 p2 p3 p4 p5) aP aJ aC))]) _
      rw [show (own_sel (own_tot (2 : Int32) p1 p2 p3 p4 p5) aP aJ aC) = aP from by rw [hT]; simp only [own_sel, if_pos c109_87]]
      refine own_astore X89 hx (Ls' := #[.val (.int p1), .val (.int p2), .val (.int p3), .val (.int p4), .val (.int p5), .val (.int p6), .val (.int (2 : Int32)), .val (.ref o48), .val (.int T), .val (.ref aP), .val (.ref aP)]) (pc' := 148) rfl (hb hby at_146) rfl rfl ?_
      refine own_aload X89 hx (pc' := 150) rfl (hb hby at_148) rfl rfl ?_
      refine own_aload X89 hx (pc' := 152) rfl (hb hby at_150) rfl rfl ?_
      refine own_acmpF X89 hx (pc' := 155) rfl (hb hby at_152) rfl rfl (XT.aa_ne_f rfl) ?_
      refine own_iconst X89 hx (v := (1 : Int32)) (pc' := 156) rfl (hb hby at_155) rfl ?_
      refine own_goto X89 hx (pc' := 160) (hb hby at_156) (by decide) (by decide) ?_
      refine own_zret X89 hx hlk hret (by simp) (hb hby at_160) (by decide) (by decide) ?_
      rw [e89]
      exact ⟨rfl, M89⟩
    · refine own_ifT X86 hx (pc' := 120) (hb hby at_109) (XT.i0_ne_t c109_87) (by decide) (by decide) ?_
      refine own_iload X86 hx (pc' := 122) rfl (hb hby at_120) rfl ?_
      refine own_iconst X86 hx (v := (1 : Int32)) (pc' := 123) rfl (hb hby at_122) rfl ?_
      by_cases c123_90 : T = (1 : Int32)
      · refine own_icmpF X86 hx (pc' := 126) rfl (hb hby at_123) (XT.ii_ne_f c123_90) ?_
        refine own_getS X86 hx hZ hown (hw _ (List.mem_of_getElem? (i := 20) rfl)) Via.refl e86 Sta_80 (pc' := 129) rfl (hb hby at_126) ?_
        intro T91 X91 e91
        refine own_astore X91 hx (Ls' := #[.val (.int p1), .val (.int p2), .val (.int p3), .val (.int p4), .val (.int p5), .val (.int p6), .val (.int (2 : Int32)), .val (.ref o48), .val (.int T), .val (.ref aJ), .unset]) (pc' := 131) rfl (hb hby at_129) rfl rfl ?_
        refine own_goto X91 hx (pc' := 139) (hb hby at_131) (by decide) (by decide) ?_
        refine own_aload X91 hx (pc' := 141) rfl (hb hby at_139) rfl rfl ?_
        refine own_iload X91 hx (pc' := 143) rfl (hb hby at_141) rfl ?_
        refine own_callS X91 hx hZ (y := (⟨"com/example/rhoquery/rhoquery/PathKind", "of", "([II)Lcom/example/rhoquery/rhoquery/PathKind;"⟩ : MethodName)) hown (hw _ (List.mem_of_getElem? (i := 9) rfl)) (hw _ (List.mem_of_getElem? (i := 10) rfl)) (hw _ (List.mem_of_getElem? (i := 7) rfl)) (hw _ (List.mem_of_getElem? (i := 11) rfl))  (by decide) (rm_of l Z a0 hw [] (own_upd (own_upd (own_upd (own_upd (own_upd (fun _ => (.int (0 : Int32))) 0 (.int p1)) 1 (.int p2)) 2 (.int p3)) 3 (.int p4)) 4 (.int p5)) p1 p2 p3 p4 p5 aP aJ aC o48 (2 : Int32) h77 n0 Siz_78 A77 Sta_79 Sta_80 Sta_81 ⟨rfl, rfl, rfl, rfl, rfl⟩ (by decide)) (by decide) (W := 0) (by decide) (by decide) (by decide) e91 (by rw [hml]; rfl) (argsL := [(.ref o48), (.int (2 : Int32))]) (rest := []) rfl (lenOf pd___II_Lcom_example_rhoquery_rhoquery_PathKind_ rfl) rfl (Nat.le_of_eq rfl) (pc' := 146) rfl (hb hby at_143) ?_
        rintro _ T92 L92 X92 ⟨rfl, N92, e92⟩
        have M92 := Fr.app M86 N92
        show own_Goes p e below T92 (mkF m 146 #[.val (.int p1), .val (.int p2), .val (.int p3), .val (.int p4), .val (.int p5), .val (.int p6), .val (.int (2 : Int32)), .val (.ref o48), .val (.int T), .val (.ref aJ), .unset] [(.ref (own_sel (own_tot (2 : Int32) p1 p2 p3 p4 p5) aP aJ aC))]) _
        rw [show (own_sel (own_tot (2 : Int32) p1 p2 p3 p4 p5) aP aJ aC) = aJ from by rw [hT]; simp only [own_sel, if_neg c109_87, if_pos c123_90]]
        refine own_astore X92 hx (Ls' := #[.val (.int p1), .val (.int p2), .val (.int p3), .val (.int p4), .val (.int p5), .val (.int p6), .val (.int (2 : Int32)), .val (.ref o48), .val (.int T), .val (.ref aJ), .val (.ref aJ)]) (pc' := 148) rfl (hb hby at_146) rfl rfl ?_
        refine own_aload X92 hx (pc' := 150) rfl (hb hby at_148) rfl rfl ?_
        refine own_aload X92 hx (pc' := 152) rfl (hb hby at_150) rfl rfl ?_
        refine own_acmpF X92 hx (pc' := 155) rfl (hb hby at_152) rfl rfl (XT.aa_ne_f rfl) ?_
        refine own_iconst X92 hx (v := (1 : Int32)) (pc' := 156) rfl (hb hby at_155) rfl ?_
        refine own_goto X92 hx (pc' := 160) (hb hby at_156) (by decide) (by decide) ?_
        refine own_zret X92 hx hlk hret (by simp) (hb hby at_160) (by decide) (by decide) ?_
        rw [e92]
        exact ⟨rfl, M92⟩
      · refine own_icmpT X86 hx (pc' := 134) (hb hby at_123) (XT.ii_ne_t c123_90) (by decide) (by decide) ?_
        refine own_getS X86 hx hZ hown (hw _ (List.mem_of_getElem? (i := 6) rfl)) Via.refl e86 Sta_81 (pc' := 137) rfl (hb hby at_134) ?_
        intro T93 X93 e93
        refine own_astore X93 hx (Ls' := #[.val (.int p1), .val (.int p2), .val (.int p3), .val (.int p4), .val (.int p5), .val (.int p6), .val (.int (2 : Int32)), .val (.ref o48), .val (.int T), .val (.ref aC), .unset]) (pc' := 139) rfl (hb hby at_137) rfl rfl ?_
        refine own_aload X93 hx (pc' := 141) rfl (hb hby at_139) rfl rfl ?_
        refine own_iload X93 hx (pc' := 143) rfl (hb hby at_141) rfl ?_
        refine own_callS X93 hx hZ (y := (⟨"com/example/rhoquery/rhoquery/PathKind", "of", "([II)Lcom/example/rhoquery/rhoquery/PathKind;"⟩ : MethodName)) hown (hw _ (List.mem_of_getElem? (i := 9) rfl)) (hw _ (List.mem_of_getElem? (i := 10) rfl)) (hw _ (List.mem_of_getElem? (i := 7) rfl)) (hw _ (List.mem_of_getElem? (i := 11) rfl))  (by decide) (rm_of l Z a0 hw [] (own_upd (own_upd (own_upd (own_upd (own_upd (fun _ => (.int (0 : Int32))) 0 (.int p1)) 1 (.int p2)) 2 (.int p3)) 3 (.int p4)) 4 (.int p5)) p1 p2 p3 p4 p5 aP aJ aC o48 (2 : Int32) h77 n0 Siz_78 A77 Sta_79 Sta_80 Sta_81 ⟨rfl, rfl, rfl, rfl, rfl⟩ (by decide)) (by decide) (W := 0) (by decide) (by decide) (by decide) e93 (by rw [hml]; rfl) (argsL := [(.ref o48), (.int (2 : Int32))]) (rest := []) rfl (lenOf pd___II_Lcom_example_rhoquery_rhoquery_PathKind_ rfl) rfl (Nat.le_of_eq rfl) (pc' := 146) rfl (hb hby at_143) ?_
        rintro _ T94 L94 X94 ⟨rfl, N94, e94⟩
        have M94 := Fr.app M86 N94
        show own_Goes p e below T94 (mkF m 146 #[.val (.int p1), .val (.int p2), .val (.int p3), .val (.int p4), .val (.int p5), .val (.int p6), .val (.int (2 : Int32)), .val (.ref o48), .val (.int T), .val (.ref aC), .unset] [(.ref (own_sel (own_tot (2 : Int32) p1 p2 p3 p4 p5) aP aJ aC))]) _
        rw [show (own_sel (own_tot (2 : Int32) p1 p2 p3 p4 p5) aP aJ aC) = aC from by rw [hT]; simp only [own_sel, if_neg c109_87, if_neg c123_90]]
        refine own_astore X94 hx (Ls' := #[.val (.int p1), .val (.int p2), .val (.int p3), .val (.int p4), .val (.int p5), .val (.int p6), .val (.int (2 : Int32)), .val (.ref o48), .val (.int T), .val (.ref aC), .val (.ref aC)]) (pc' := 148) rfl (hb hby at_146) rfl rfl ?_
        refine own_aload X94 hx (pc' := 150) rfl (hb hby at_148) rfl rfl ?_
        refine own_aload X94 hx (pc' := 152) rfl (hb hby at_150) rfl rfl ?_
        refine own_acmpF X94 hx (pc' := 155) rfl (hb hby at_152) rfl rfl (XT.aa_ne_f rfl) ?_
        refine own_iconst X94 hx (v := (1 : Int32)) (pc' := 156) rfl (hb hby at_155) rfl ?_
        refine own_goto X94 hx (pc' := 160) (hb hby at_156) (by decide) (by decide) ?_
        refine own_zret X94 hx hlk hret (by simp) (hb hby at_160) (by decide) (by decide) ?_
        rw [e94]
        exact ⟨rfl, M94⟩
  · refine own_istore X0 hx (Ls' := #[.val (.int p1), .val (.int p2), .val (.int p3), .val (.int p4), .val (.int p5), .val (.int p6), .val (.int (3 : Int32)), .unset, .unset, .unset, .unset]) (pc' := 11) rfl (hb hby at_9) rfl ?_
    refine own_iconst X0 hx (v := (5 : Int32)) (pc' := 12) rfl (hb hby at_11) rfl ?_
    refine own_newarr X0 hx hZ (aty := .int) (hw _ (List.mem_of_getElem? (i := 1) rfl)) e0 (pc' := 14) rfl (hb hby at_12) (by decide) (N := 5) (by decide) (cap := 5) (by decide) (by decide) (by decide) (by decide) ?_
    intro T95 h95 X95 e95 E95 A95
    obtain ⟨o95, g95⟩ : ∃ z, z = h0.size := ⟨_, rfl⟩
    rw [← g95] at A95 ⊢
    have ge95 : n0 ≤ o95 := g95 ▸ Z0
    have Siz_96 := Nat.le_trans Z0 E95.1
    have Sta_97 := Sta.ext E95 S0_
    have Sta_98 := Sta.ext E95 S1_
    have Sta_99 := Sta.ext E95 S2_
    refine own_dup X95 hx (pc' := 15) rfl (hb hby at_14) rfl ?_
    refine own_iconst X95 hx (v := (0 : Int32)) (pc' := 16) rfl (hb hby at_15) rfl ?_
    refine own_iloadN X95 hx (pc' := 17) rfl (hb hby at_16) rfl ?_
    refine own_stI X95 hx hZ e95 A95 (k := 0) (by decide) (by decide) (by decide) (pc' := 18) rfl (hb hby at_17) ?_
    intro T100 h100 X100 e100 W100 A100
    have Siz_101 := own_sizWr W100 Siz_96
    have Sta_102 := Sta.wr W100 Sta_97
    have Sta_103 := Sta.wr W100 Sta_98
    have Sta_104 := Sta.wr W100 Sta_99
    have N100 := Fr.snoc X100 N0 ge95
    refine own_dup X100 hx (pc' := 19) rfl (hb hby at_18) rfl ?_
    refine own_iconst X100 hx (v := (1 : Int32)) (pc' := 20) rfl (hb hby at_19) rfl ?_
    refine own_iloadN X100 hx (pc' := 21) rfl (hb hby at_20) rfl ?_
    refine own_stI X100 hx hZ e100 A100 (k := 1) (by decide) (by decide) (by decide) (pc' := 22) rfl (hb hby at_21) ?_
    intro T106 h106 X106 e106 W106 A106
    have Siz_107 := own_sizWr W106 Siz_101
    have Sta_108 := Sta.wr W106 Sta_102
    have Sta_109 := Sta.wr W106 Sta_103
    have Sta_110 := Sta.wr W106 Sta_104
    have N106 := Fr.snoc X106 N100 ge95
    refine own_dup X106 hx (pc' := 23) rfl (hb hby at_22) rfl ?_
    refine own_iconst X106 hx (v := (2 : Int32)) (pc' := 24) rfl (hb hby at_23) rfl ?_
    refine own_iloadN X106 hx (pc' := 25) rfl (hb hby at_24) rfl ?_
    refine own_stI X106 hx hZ e106 A106 (k := 2) (by decide) (by decide) (by decide) (pc' := 26) rfl (hb hby at_25) ?_
    intro T112 h112 X112 e112 W112 A112
    have Siz_113 := own_sizWr W112 Siz_107
    have Sta_114 := Sta.wr W112 Sta_108
    have Sta_115 := Sta.wr W112 Sta_109
    have Sta_116 := Sta.wr W112 Sta_110
    have N112 := Fr.snoc X112 N106 ge95
    refine own_dup X112 hx (pc' := 27) rfl (hb hby at_26) rfl ?_
    refine own_iconst X112 hx (v := (3 : Int32)) (pc' := 28) rfl (hb hby at_27) rfl ?_
    refine own_iloadN X112 hx (pc' := 29) rfl (hb hby at_28) rfl ?_
    refine own_stI X112 hx hZ e112 A112 (k := 3) (by decide) (by decide) (by decide) (pc' := 30) rfl (hb hby at_29) ?_
    intro T118 h118 X118 e118 W118 A118
    have Siz_119 := own_sizWr W118 Siz_113
    have Sta_120 := Sta.wr W118 Sta_114
    have Sta_121 := Sta.wr W118 Sta_115
    have Sta_122 := Sta.wr W118 Sta_116
    have N118 := Fr.snoc X118 N112 ge95
    refine own_dup X118 hx (pc' := 31) rfl (hb hby at_30) rfl ?_
    refine own_iconst X118 hx (v := (4 : Int32)) (pc' := 32) rfl (hb hby at_31) rfl ?_
    refine own_iload X118 hx (pc' := 34) rfl (hb hby at_32) rfl ?_
    refine own_stI X118 hx hZ e118 A118 (k := 4) (by decide) (by decide) (by decide) (pc' := 35) rfl (hb hby at_34) ?_
    intro T124 h124 X124 e124 W124 A124
    have Siz_125 := own_sizWr W124 Siz_119
    have Sta_126 := Sta.wr W124 Sta_120
    have Sta_127 := Sta.wr W124 Sta_121
    have Sta_128 := Sta.wr W124 Sta_122
    have N124 := Fr.snoc X124 N118 ge95
    refine own_astore X124 hx (Ls' := #[.val (.int p1), .val (.int p2), .val (.int p3), .val (.int p4), .val (.int p5), .val (.int p6), .val (.int (3 : Int32)), .val (.ref o95), .unset, .unset, .unset]) (pc' := 37) rfl (hb hby at_35) rfl rfl ?_
    refine own_iload X124 hx (pc' := 39) rfl (hb hby at_37) rfl ?_
    refine own_iconst X124 hx (v := (1 : Int32)) (pc' := 40) rfl (hb hby at_39) rfl ?_
    refine own_icmpF X124 hx (pc' := 43) rfl (hb hby at_40) (XT.ii_le_f (by decide)) ?_
    refine own_iconst X124 hx (v := (1 : Int32)) (pc' := 44) rfl (hb hby at_43) rfl ?_
    refine own_goto X124 hx (pc' := 48) (hb hby at_44) (by decide) (by decide) ?_
    refine own_iloadN X124 hx (pc' := 49) rfl (hb hby at_48) rfl ?_
    refine own_iloadN X124 hx (pc' := 50) rfl (hb hby at_49) rfl ?_
    refine own_callS X124 hx hZ (y := (⟨"com/example/rhoquery/rhoquery/PathKindOfPinLaw", "turn", "(ZII)I"⟩ : MethodName)) hown (hw _ (List.mem_of_getElem? (i := 2) rfl)) (hw _ (List.mem_of_getElem? (i := 3) rfl)) (hw _ (List.mem_of_getElem? (i := 4) rfl)) (hw _ (List.mem_of_getElem? (i := 5) rfl))  (by decide) (rm_turn l Z a0 hw [] (1 : Int32) p1 p2 h124 n0 Siz_125) (by decide) (W := 0) (by decide) (by decide) (by decide) e124 (by rw [hml]; rfl) (argsL := [(.int (1 : Int32)), (.int p1), (.int p2)]) (rest := []) rfl (lenOf pd__ZII_I rfl) rfl (Nat.le_of_eq rfl) (pc' := 53) rfl (hb hby at_50) ?_
    rintro _ T130 L130 X130 ⟨rfl, N130, e130⟩
    have M130 := Fr.app N124 N130
    show own_Goes p e below T130 (mkF m 53 #[.val (.int p1), .val (.int p2), .val (.int p3), .val (.int p4), .val (.int p5), .val (.int p6), .val (.int (3 : Int32)), .val (.ref o95), .unset, .unset, .unset] [(.int (own_turn (1 : Int32) p1 p2))]) _
    refine own_iload X130 hx (pc' := 55) rfl (hb hby at_53) rfl ?_
    refine own_iconst X130 hx (v := (2 : Int32)) (pc' := 56) rfl (hb hby at_55) rfl ?_
    refine own_icmpF X130 hx (pc' := 59) rfl (hb hby at_56) (XT.ii_le_f (by decide)) ?_
    refine own_iconst X130 hx (v := (1 : Int32)) (pc' := 60) rfl (hb hby at_59) rfl ?_
    refine own_goto X130 hx (pc' := 64) (hb hby at_60) (by decide) (by decide) ?_
    refine own_iloadN X130 hx (pc' := 65) rfl (hb hby at_64) rfl ?_
    refine own_iloadN X130 hx (pc' := 66) rfl (hb hby at_65) rfl ?_
    refine own_callS X130 hx hZ (y := (⟨"com/example/rhoquery/rhoquery/PathKindOfPinLaw", "turn", "(ZII)I"⟩ : MethodName)) hown (hw _ (List.mem_of_getElem? (i := 2) rfl)) (hw _ (List.mem_of_getElem? (i := 3) rfl)) (hw _ (List.mem_of_getElem? (i := 4) rfl)) (hw _ (List.mem_of_getElem? (i := 5) rfl))  (by decide) (rm_turn l Z a0 hw [] (1 : Int32) p2 p3 h124 n0 Siz_125) (by decide) (W := 1) (by decide) (by decide) (by decide) e130 (by rw [hml]; rfl) (argsL := [(.int (1 : Int32)), (.int p2), (.int p3)]) (rest := [(.int (own_turn (1 : Int32) p1 p2))]) rfl (lenOf pd__ZII_I rfl) rfl (Nat.le_of_eq rfl) (pc' := 69) rfl (hb hby at_66) ?_
    rintro _ T131 L131 X131 ⟨rfl, N131, e131⟩
    have M131 := Fr.app M130 N131
    show own_Goes p e below T131 (mkF m 69 #[.val (.int p1), .val (.int p2), .val (.int p3), .val (.int p4), .val (.int p5), .val (.int p6), .val (.int (3 : Int32)), .val (.ref o95), .unset, .unset, .unset] [(.int (own_turn (1 : Int32) p2 p3)), (.int (own_turn (1 : Int32) p1 p2))]) _
    refine own_iadd X131 hx (v := ((own_turn (1 : Int32) p1 p2) + (own_turn (1 : Int32) p2 p3))) (pc' := 70) rfl (hb hby at_69) rfl ?_
    refine own_iload X131 hx (pc' := 72) rfl (hb hby at_70) rfl ?_
    refine own_iconst X131 hx (v := (3 : Int32)) (pc' := 73) rfl (hb hby at_72) rfl ?_
    refine own_icmpT X131 hx (pc' := 80) (hb hby at_73) (XT.ii_le_t (by decide)) (by decide) (by decide) ?_
    refine own_iconst X131 hx (v := (0 : Int32)) (pc' := 81) rfl (hb hby at_80) rfl ?_
    refine own_iloadN X131 hx (pc' := 82) rfl (hb hby at_81) rfl ?_
    refine own_iloadN X131 hx (pc' := 83) rfl (hb hby at_82) rfl ?_
    refine own_callS X131 hx hZ (y := (⟨"com/example/rhoquery/rhoquery/PathKindOfPinLaw", "turn", "(ZII)I"⟩ : MethodName)) hown (hw _ (List.mem_of_getElem? (i := 2) rfl)) (hw _ (List.mem_of_getElem? (i := 3) rfl)) (hw _ (List.mem_of_getElem? (i := 4) rfl)) (hw _ (List.mem_of_getElem? (i := 5) rfl))  (by decide) (rm_turn l Z a0 hw [] (0 : Int32) p3 p4 h124 n0 Siz_125) (by decide) (W := 1) (by decide) (by decide) (by decide) e131 (by rw [hml]; rfl) (argsL := [(.int (0 : Int32)), (.int p3), (.int p4)]) (rest := [(.int ((own_turn (1 : Int32) p1 p2) + (own_turn (1 : Int32) p2 p3)))]) rfl (lenOf pd__ZII_I rfl) rfl (Nat.le_of_eq rfl) (pc' := 86) rfl (hb hby at_83) ?_
    rintro _ T132 L132 X132 ⟨rfl, N132, e132⟩
    have M132 := Fr.app M131 N132
    show own_Goes p e below T132 (mkF m 86 #[.val (.int p1), .val (.int p2), .val (.int p3), .val (.int p4), .val (.int p5), .val (.int p6), .val (.int (3 : Int32)), .val (.ref o95), .unset, .unset, .unset] [(.int (own_turn (0 : Int32) p3 p4)), (.int ((own_turn (1 : Int32) p1 p2) + (own_turn (1 : Int32) p2 p3)))]) _
    refine own_iadd X132 hx (v := (((own_turn (1 : Int32) p1 p2) + (own_turn (1 : Int32) p2 p3)) + (own_turn (0 : Int32) p3 p4))) (pc' := 87) rfl (hb hby at_86) rfl ?_
    refine own_iload X132 hx (pc' := 89) rfl (hb hby at_87) rfl ?_
    refine own_iconst X132 hx (v := (4 : Int32)) (pc' := 90) rfl (hb hby at_89) rfl ?_
    refine own_icmpT X132 hx (pc' := 97) (hb hby at_90) (XT.ii_le_t (by decide)) (by decide) (by decide) ?_
    refine own_iconst X132 hx (v := (0 : Int32)) (pc' := 98) rfl (hb hby at_97) rfl ?_
    refine own_iloadN X132 hx (pc' := 99) rfl (hb hby at_98) rfl ?_
    refine own_iload X132 hx (pc' := 101) rfl (hb hby at_99) rfl ?_
    refine own_callS X132 hx hZ (y := (⟨"com/example/rhoquery/rhoquery/PathKindOfPinLaw", "turn", "(ZII)I"⟩ : MethodName)) hown (hw _ (List.mem_of_getElem? (i := 2) rfl)) (hw _ (List.mem_of_getElem? (i := 3) rfl)) (hw _ (List.mem_of_getElem? (i := 4) rfl)) (hw _ (List.mem_of_getElem? (i := 5) rfl))  (by decide) (rm_turn l Z a0 hw [] (0 : Int32) p4 p5 h124 n0 Siz_125) (by decide) (W := 1) (by decide) (by decide) (by decide) e132 (by rw [hml]; rfl) (argsL := [(.int (0 : Int32)), (.int p4), (.int p5)]) (rest := [(.int (((own_turn (1 : Int32) p1 p2) + (own_turn (1 : Int32) p2 p3)) + (own_turn (0 : Int32) p3 p4)))]) rfl (lenOf pd__ZII_I rfl) rfl (Nat.le_of_eq rfl) (pc' := 104) rfl (hb hby at_101) ?_
    rintro _ T133 L133 X133 ⟨rfl, N133, e133⟩
    have M133 := Fr.app M132 N133
    show own_Goes p e below T133 (mkF m 104 #[.val (.int p1), .val (.int p2), .val (.int p3), .val (.int p4), .val (.int p5), .val (.int p6), .val (.int (3 : Int32)), .val (.ref o95), .unset, .unset, .unset] [(.int (own_turn (0 : Int32) p4 p5)), (.int (((own_turn (1 : Int32) p1 p2) + (own_turn (1 : Int32) p2 p3)) + (own_turn (0 : Int32) p3 p4)))]) _
    refine own_iadd X133 hx (v := ((((own_turn (1 : Int32) p1 p2) + (own_turn (1 : Int32) p2 p3)) + (own_turn (0 : Int32) p3 p4)) + (own_turn (0 : Int32) p4 p5))) (pc' := 105) rfl (hb hby at_104) rfl ?_
    have hT : own_tot (3 : Int32) p1 p2 p3 p4 p5 = ((((own_turn (1 : Int32) p1 p2) + (own_turn (1 : Int32) p2 p3)) + (own_turn (0 : Int32) p3 p4)) + (own_turn (0 : Int32) p4 p5)) := rfl
    generalize ((((own_turn (1 : Int32) p1 p2) + (own_turn (1 : Int32) p2 p3)) + (own_turn (0 : Int32) p3 p4)) + (own_turn (0 : Int32) p4 p5)) = T at hT ⊢
    refine own_istore X133 hx (Ls' := #[.val (.int p1), .val (.int p2), .val (.int p3), .val (.int p4), .val (.int p5), .val (.int p6), .val (.int (3 : Int32)), .val (.ref o95), .val (.int T), .unset, .unset]) (pc' := 107) rfl (hb hby at_105) rfl ?_
    refine own_iload X133 hx (pc' := 109) rfl (hb hby at_107) rfl ?_
    by_cases c109_134 : T = 0
    · refine own_ifF X133 hx (pc' := 112) rfl (hb hby at_109) (XT.i0_ne_f c109_134) ?_
      refine own_getS X133 hx hZ hown (hw _ (List.mem_of_getElem? (i := 23) rfl)) Via.refl e133 Sta_126 (pc' := 115) rfl (hb hby at_112) ?_
      intro T135 X135 e135
      refine own_astore X135 hx (Ls' := #[.val (.int p1), .val (.int p2), .val (.int p3), .val (.int p4), .val (.int p5), .val (.int p6), .val (.int (3 : Int32)), .val (.ref o95), .val (.int T), .val (.ref aP), .unset]) (pc' := 117) rfl (hb hby at_115) rfl rfl ?_
      refine own_goto X135 hx (pc' := 139) (hb hby at_117) (by decide) (by decide) ?_
      refine own_aload X135 hx (pc' := 141) rfl (hb hby at_139) rfl rfl ?_
      refine own_iload X135 hx (pc' := 143) rfl (hb hby at_141) rfl ?_
      refine own_callS X135 hx hZ (y := (⟨"com/example/rhoquery/rhoquery/PathKind", "of", "([II)Lcom/example/rhoquery/rhoquery/PathKind;"⟩ : MethodName)) hown (hw _ (List.mem_of_getElem? (i := 9) rfl)) (hw _ (List.mem_of_getElem? (i := 10) rfl)) (hw _ (List.mem_of_getElem? (i := 7) rfl)) (hw _ (List.mem_of_getElem? (i := 11) rfl))  (by decide) (rm_of l Z a0 hw [] (own_upd (own_upd (own_upd (own_upd (own_upd (fun _ => (.int (0 : Int32))) 0 (.int p1)) 1 (.int p2)) 2 (.int p3)) 3 (.int p4)) 4 (.int p5)) p1 p2 p3 p4 p5 aP aJ aC o95 (3 : Int32) h124 n0 Siz_125 A124 Sta_126 Sta_127 Sta_128 ⟨rfl, rfl, rfl, rfl, rfl⟩ (by decide)) (by decide) (W := 0) (by decide) (by decide) (by decide) e135 (by rw [hml]; rfl) (argsL := [(.ref o95), (.int (3 : Int32))]) (rest := []) rfl (lenOf pd___II_Lcom_example_rhoquery_rhoquery_PathKind_ rfl) rfl (Nat.le_of_eq rfl) (pc' := 146) rfl (hb hby at_143) ?_
      rintro _ T136 L136 X136 ⟨rfl, N136, e136⟩
      have M136 := Fr.app M133 N136
      show own_Goes p e below T136 (mkF m 146 #[.val (.int p1), .val (.int p2), .val (.int p3), .val (.int p4), .val (.int p5), .val (.int p6), .val (.int (3 : Int32)), .val (.ref o95), .val (.int T), .val (.ref aP), .unset] [(.ref (own_sel (own_tot (3 : Int32) p1 p2 p3 p4 p5) aP aJ aC))]) _
      rw [show (own_sel (own_tot (3 : Int32) p1 p2 p3 p4 p5) aP aJ aC) = aP from by rw [hT]; simp only [own_sel, if_pos c109_134]]
      refine own_astore X136 hx (Ls' := #[.val (.int p1), .val (.int p2), .val (.int p3), .val (.int p4), .val (.int p5), .val (.int p6), .val (.int (3 : Int32)), .val (.ref o95), .val (.int T), .val (.ref aP), .val (.ref aP)]) (pc' := 148) rfl (hb hby at_146) rfl rfl ?_
      refine own_aload X136 hx (pc' := 150) rfl (hb hby at_148) rfl rfl ?_
      refine own_aload X136 hx (pc' := 152) rfl (hb hby at_150) rfl rfl ?_
      refine own_acmpF X136 hx (pc' := 155) rfl (hb hby at_152) rfl rfl (XT.aa_ne_f rfl) ?_
      refine own_iconst X136 hx (v := (1 : Int32)) (pc' := 156) rfl (hb hby at_155) rfl ?_
      refine own_goto X136 hx (pc' := 160) (hb hby at_156) (by decide) (by decide) ?_
      refine own_zret X136 hx hlk hret (by simp) (hb hby at_160) (by decide) (by decide) ?_
      rw [e136]
      exact ⟨rfl, M136⟩
    · refine own_ifT X133 hx (pc' := 120) (hb hby at_109) (XT.i0_ne_t c109_134) (by decide) (by decide) ?_
      refine own_iload X133 hx (pc' := 122) rfl (hb hby at_120) rfl ?_
      refine own_iconst X133 hx (v := (1 : Int32)) (pc' := 123) rfl (hb hby at_122) rfl ?_
      by_cases c123_137 : T = (1 : Int32)
      · refine own_icmpF X133 hx (pc' := 126) rfl (hb hby at_123) (XT.ii_ne_f c123_137) ?_
        refine own_getS X133 hx hZ hown (hw _ (List.mem_of_getElem? (i := 20) rfl)) Via.refl e133 Sta_127 (pc' := 129) rfl (hb hby at_126) ?_
        intro T138 X138 e138
        refine own_astore X138 hx (Ls' := #[.val (.int p1), .val (.int p2), .val (.int p3), .val (.int p4), .val (.int p5), .val (.int p6), .val (.int (3 : Int32)), .val (.ref o95), .val (.int T), .val (.ref aJ), .unset]) (pc' := 131) rfl (hb hby at_129) rfl rfl ?_
        refine own_goto X138 hx (pc' := 139) (hb hby at_131) (by decide) (by decide) ?_
        refine own_aload X138 hx (pc' := 141) rfl (hb hby at_139) rfl rfl ?_
        refine own_iload X138 hx (pc' := 143) rfl (hb hby at_141) rfl ?_
        refine own_callS X138 hx hZ (y := (⟨"com/example/rhoquery/rhoquery/PathKind", "of", "([II)Lcom/example/rhoquery/rhoquery/PathKind;"⟩ : MethodName)) hown (hw _ (List.mem_of_getElem? (i := 9) rfl)) (hw _ (List.mem_of_getElem? (i := 10) rfl)) (hw _ (List.mem_of_getElem? (i := 7) rfl)) (hw _ (List.mem_of_getElem? (i := 11) rfl))  (by decide) (rm_of l Z a0 hw [] (own_upd (own_upd (own_upd (own_upd (own_upd (fun _ => (.int (0 : Int32))) 0 (.int p1)) 1 (.int p2)) 2 (.int p3)) 3 (.int p4)) 4 (.int p5)) p1 p2 p3 p4 p5 aP aJ aC o95 (3 : Int32) h124 n0 Siz_125 A124 Sta_126 Sta_127 Sta_128 ⟨rfl, rfl, rfl, rfl, rfl⟩ (by decide)) (by decide) (W := 0) (by decide) (by decide) (by decide) e138 (by rw [hml]; rfl) (argsL := [(.ref o95), (.int (3 : Int32))]) (rest := []) rfl (lenOf pd___II_Lcom_example_rhoquery_rhoquery_PathKind_ rfl) rfl (Nat.le_of_eq rfl) (pc' := 146) rfl (hb hby at_143) ?_
        rintro _ T139 L139 X139 ⟨rfl, N139, e139⟩
        have M139 := Fr.app M133 N139
        show own_Goes p e below T139 (mkF m 146 #[.val (.int p1), .val (.int p2), .val (.int p3), .val (.int p4), .val (.int p5), .val (.int p6), .val (.int (3 : Int32)), .val (.ref o95), .val (.int T), .val (.ref aJ), .unset] [(.ref (own_sel (own_tot (3 : Int32) p1 p2 p3 p4 p5) aP aJ aC))]) _
        rw [show (own_sel (own_tot (3 : Int32) p1 p2 p3 p4 p5) aP aJ aC) = aJ from by rw [hT]; simp only [own_sel, if_neg c109_134, if_pos c123_137]]
        refine own_astore X139 hx (Ls' := #[.val (.int p1), .val (.int p2), .val (.int p3), .val (.int p4), .val (.int p5), .val (.int p6), .val (.int (3 : Int32)), .val (.ref o95), .val (.int T), .val (.ref aJ), .val (.ref aJ)]) (pc' := 148) rfl (hb hby at_146) rfl rfl ?_
        refine own_aload X139 hx (pc' := 150) rfl (hb hby at_148) rfl rfl ?_
        refine own_aload X139 hx (pc' := 152) rfl (hb hby at_150) rfl rfl ?_
        refine own_acmpF X139 hx (pc' := 155) rfl (hb hby at_152) rfl rfl (XT.aa_ne_f rfl) ?_
        refine own_iconst X139 hx (v := (1 : Int32)) (pc' := 156) rfl (hb hby at_155) rfl ?_
        refine own_goto X139 hx (pc' := 160) (hb hby at_156) (by decide) (by decide) ?_
        refine own_zret X139 hx hlk hret (by simp) (hb hby at_160) (by decide) (by decide) ?_
        rw [e139]
        exact ⟨rfl, M139⟩
      · refine own_icmpT X133 hx (pc' := 134) (hb hby at_123) (XT.ii_ne_t c123_137) (by decide) (by decide) ?_
        refine own_getS X133 hx hZ hown (hw _ (List.mem_of_getElem? (i := 6) rfl)) Via.refl e133 Sta_128 (pc' := 137) rfl (hb hby at_134) ?_
        intro T140 X140 e140
        refine own_astore X140 hx (Ls' := #[.val (.int p1), .val (.int p2), .val (.int p3), .val (.int p4), .val (.int p5), .val (.int p6), .val (.int (3 : Int32)), .val (.ref o95), .val (.int T), .val (.ref aC), .unset]) (pc' := 139) rfl (hb hby at_137) rfl rfl ?_
        refine own_aload X140 hx (pc' := 141) rfl (hb hby at_139) rfl rfl ?_
        refine own_iload X140 hx (pc' := 143) rfl (hb hby at_141) rfl ?_
        refine own_callS X140 hx hZ (y := (⟨"com/example/rhoquery/rhoquery/PathKind", "of", "([II)Lcom/example/rhoquery/rhoquery/PathKind;"⟩ : MethodName)) hown (hw _ (List.mem_of_getElem? (i := 9) rfl)) (hw _ (List.mem_of_getElem? (i := 10) rfl)) (hw _ (List.mem_of_getElem? (i := 7) rfl)) (hw _ (List.mem_of_getElem? (i := 11) rfl))  (by decide) (rm_of l Z a0 hw [] (own_upd (own_upd (own_upd (own_upd (own_upd (fun _ => (.int (0 : Int32))) 0 (.int p1)) 1 (.int p2)) 2 (.int p3)) 3 (.int p4)) 4 (.int p5)) p1 p2 p3 p4 p5 aP aJ aC o95 (3 : Int32) h124 n0 Siz_125 A124 Sta_126 Sta_127 Sta_128 ⟨rfl, rfl, rfl, rfl, rfl⟩ (by decide)) (by decide) (W := 0) (by decide) (by decide) (by decide) e140 (by rw [hml]; rfl) (argsL := [(.ref o95), (.int (3 : Int32))]) (rest := []) rfl (lenOf pd___II_Lcom_example_rhoquery_rhoquery_PathKind_ rfl) rfl (Nat.le_of_eq rfl) (pc' := 146) rfl (hb hby at_143) ?_
        rintro _ T141 L141 X141 ⟨rfl, N141, e141⟩
        have M141 := Fr.app M133 N141
        show own_Goes p e below T141 (mkF m 146 #[.val (.int p1), .val (.int p2), .val (.int p3), .val (.int p4), .val (.int p5), .val (.int p6), .val (.int (3 : Int32)), .val (.ref o95), .val (.int T), .val (.ref aC), .unset] [(.ref (own_sel (own_tot (3 : Int32) p1 p2 p3 p4 p5) aP aJ aC))]) _
        rw [show (own_sel (own_tot (3 : Int32) p1 p2 p3 p4 p5) aP aJ aC) = aC from by rw [hT]; simp only [own_sel, if_neg c109_134, if_neg c123_137]]
        refine own_astore X141 hx (Ls' := #[.val (.int p1), .val (.int p2), .val (.int p3), .val (.int p4), .val (.int p5), .val (.int p6), .val (.int (3 : Int32)), .val (.ref o95), .val (.int T), .val (.ref aC), .val (.ref aC)]) (pc' := 148) rfl (hb hby at_146) rfl rfl ?_
        refine own_aload X141 hx (pc' := 150) rfl (hb hby at_148) rfl rfl ?_
        refine own_aload X141 hx (pc' := 152) rfl (hb hby at_150) rfl rfl ?_
        refine own_acmpF X141 hx (pc' := 155) rfl (hb hby at_152) rfl rfl (XT.aa_ne_f rfl) ?_
        refine own_iconst X141 hx (v := (1 : Int32)) (pc' := 156) rfl (hb hby at_155) rfl ?_
        refine own_goto X141 hx (pc' := 160) (hb hby at_156) (by decide) (by decide) ?_
        refine own_zret X141 hx hlk hret (by simp) (hb hby at_160) (by decide) (by decide) ?_
        rw [e141]
        exact ⟨rfl, M141⟩
  · refine own_istore X0 hx (Ls' := #[.val (.int p1), .val (.int p2), .val (.int p3), .val (.int p4), .val (.int p5), .val (.int p6), .val (.int (4 : Int32)), .unset, .unset, .unset, .unset]) (pc' := 11) rfl (hb hby at_9) rfl ?_
    refine own_iconst X0 hx (v := (5 : Int32)) (pc' := 12) rfl (hb hby at_11) rfl ?_
    refine own_newarr X0 hx hZ (aty := .int) (hw _ (List.mem_of_getElem? (i := 1) rfl)) e0 (pc' := 14) rfl (hb hby at_12) (by decide) (N := 5) (by decide) (cap := 5) (by decide) (by decide) (by decide) (by decide) ?_
    intro T142 h142 X142 e142 E142 A142
    obtain ⟨o142, g142⟩ : ∃ z, z = h0.size := ⟨_, rfl⟩
    rw [← g142] at A142 ⊢
    have ge142 : n0 ≤ o142 := g142 ▸ Z0
    have Siz_143 := Nat.le_trans Z0 E142.1
    have Sta_144 := Sta.ext E142 S0_
    have Sta_145 := Sta.ext E142 S1_
    have Sta_146 := Sta.ext E142 S2_
    refine own_dup X142 hx (pc' := 15) rfl (hb hby at_14) rfl ?_
    refine own_iconst X142 hx (v := (0 : Int32)) (pc' := 16) rfl (hb hby at_15) rfl ?_
    refine own_iloadN X142 hx (pc' := 17) rfl (hb hby at_16) rfl ?_
    refine own_stI X142 hx hZ e142 A142 (k := 0) (by decide) (by decide) (by decide) (pc' := 18) rfl (hb hby at_17) ?_
    intro T147 h147 X147 e147 W147 A147
    have Siz_148 := own_sizWr W147 Siz_143
    have Sta_149 := Sta.wr W147 Sta_144
    have Sta_150 := Sta.wr W147 Sta_145
    have Sta_151 := Sta.wr W147 Sta_146
    have N147 := Fr.snoc X147 N0 ge142
    refine own_dup X147 hx (pc' := 19) rfl (hb hby at_18) rfl ?_
    refine own_iconst X147 hx (v := (1 : Int32)) (pc' := 20) rfl (hb hby at_19) rfl ?_
    refine own_iloadN X147 hx (pc' := 21) rfl (hb hby at_20) rfl ?_
    refine own_stI X147 hx hZ e147 A147 (k := 1) (by decide) (by decide) (by decide) (pc' := 22) rfl (hb hby at_21) ?_
    intro T153 h153 X153 e153 W153 A153
    have Siz_154 := own_sizWr W153 Siz_148
    have Sta_155 := Sta.wr W153 Sta_149
    have Sta_156 := Sta.wr W153 Sta_150
    have Sta_157 := Sta.wr W153 Sta_151
    have N153 := Fr.snoc X153 N147 ge142
    refine own_dup X153 hx (pc' := 23) rfl (hb hby at_22) rfl ?_
    refine own_iconst X153 hx (v := (2 : Int32)) (pc' := 24) rfl (hb hby at_23) rfl ?_
    refine own_iloadN X153 hx (pc' := 25) rfl (hb hby at_24) rfl ?_
    refine own_stI X153 hx hZ e153 A153 (k := 2) (by decide) (by decide) (by decide) (pc' := 26) rfl (hb hby at_25) ?_
    intro T159 h159 X159 e159 W159 A159
    have Siz_160 := own_sizWr W159 Siz_154
    have Sta_161 := Sta.wr W159 Sta_155
    have Sta_162 := Sta.wr W159 Sta_156
    have Sta_163 := Sta.wr W159 Sta_157
    have N159 := Fr.snoc X159 N153 ge142
    refine own_dup X159 hx (pc' := 27) rfl (hb hby at_26) rfl ?_
    refine own_iconst X159 hx (v := (3 : Int32)) (pc' := 28) rfl (hb hby at_27) rfl ?_
    refine own_iloadN X159 hx (pc' := 29) rfl (hb hby at_28) rfl ?_
    refine own_stI X159 hx hZ e159 A159 (k := 3) (by decide) (by decide) (by decide) (pc' := 30) rfl (hb hby at_29) ?_
    intro T165 h165 X165 e165 W165 A165
    have Siz_166 := own_sizWr W165 Siz_160
    have Sta_167 := Sta.wr W165 Sta_161
    have Sta_168 := Sta.wr W165 Sta_162
    have Sta_169 := Sta.wr W165 Sta_163
    have N165 := Fr.snoc X165 N159 ge142
    refine own_dup X165 hx (pc' := 31) rfl (hb hby at_30) rfl ?_
    refine own_iconst X165 hx (v := (4 : Int32)) (pc' := 32) rfl (hb hby at_31) rfl ?_
    refine own_iload X165 hx (pc' := 34) rfl (hb hby at_32) rfl ?_
    refine own_stI X165 hx hZ e165 A165 (k := 4) (by decide) (by decide) (by decide) (pc' := 35) rfl (hb hby at_34) ?_
    intro T171 h171 X171 e171 W171 A171
    have Siz_172 := own_sizWr W171 Siz_166
    have Sta_173 := Sta.wr W171 Sta_167
    have Sta_174 := Sta.wr W171 Sta_168
    have Sta_175 := Sta.wr W171 Sta_169
    have N171 := Fr.snoc X171 N165 ge142
    refine own_astore X171 hx (Ls' := #[.val (.int p1), .val (.int p2), .val (.int p3), .val (.int p4), .val (.int p5), .val (.int p6), .val (.int (4 : Int32)), .val (.ref o142), .unset, .unset, .unset]) (pc' := 37) rfl (hb hby at_35) rfl rfl ?_
    refine own_iload X171 hx (pc' := 39) rfl (hb hby at_37) rfl ?_
    refine own_iconst X171 hx (v := (1 : Int32)) (pc' := 40) rfl (hb hby at_39) rfl ?_
    refine own_icmpF X171 hx (pc' := 43) rfl (hb hby at_40) (XT.ii_le_f (by decide)) ?_
    refine own_iconst X171 hx (v := (1 : Int32)) (pc' := 44) rfl (hb hby at_43) rfl ?_
    refine own_goto X171 hx (pc' := 48) (hb hby at_44) (by decide) (by decide) ?_
    refine own_iloadN X171 hx (pc' := 49) rfl (hb hby at_48) rfl ?_
    refine own_iloadN X171 hx (pc' := 50) rfl (hb hby at_49) rfl ?_
    refine own_callS X171 hx hZ (y := (⟨"com/example/rhoquery/rhoquery/PathKindOfPinLaw", "turn", "(ZII)I"⟩ : MethodName)) hown (hw _ (List.mem_of_getElem? (i := 2) rfl)) (hw _ (List.mem_of_getElem? (i := 3) rfl)) (hw _ (List.mem_of_getElem? (i := 4) rfl)) (hw _ (List.mem_of_getElem? (i := 5) rfl))  (by decide) (rm_turn l Z a0 hw [] (1 : Int32) p1 p2 h171 n0 Siz_172) (by decide) (W := 0) (by decide) (by decide) (by decide) e171 (by rw [hml]; rfl) (argsL := [(.int (1 : Int32)), (.int p1), (.int p2)]) (rest := []) rfl (lenOf pd__ZII_I rfl) rfl (Nat.le_of_eq rfl) (pc' := 53) rfl (hb hby at_50) ?_
    rintro _ T177 L177 X177 ⟨rfl, N177, e177⟩
    have M177 := Fr.app N171 N177
    show own_Goes p e below T177 (mkF m 53 #[.val (.int p1), .val (.int p2), .val (.int p3), .val (.int p4), .val (.int p5), .val (.int p6), .val (.int (4 : Int32)), .val (.ref o142), .unset, .unset, .unset] [(.int (own_turn (1 : Int32) p1 p2))]) _
    refine own_iload X177 hx (pc' := 55) rfl (hb hby at_53) rfl ?_
    refine own_iconst X177 hx (v := (2 : Int32)) (pc' := 56) rfl (hb hby at_55) rfl ?_
    refine own_icmpF X177 hx (pc' := 59) rfl (hb hby at_56) (XT.ii_le_f (by decide)) ?_
    refine own_iconst X177 hx (v := (1 : Int32)) (pc' := 60) rfl (hb hby at_59) rfl ?_
    refine own_goto X177 hx (pc' := 64) (hb hby at_60) (by decide) (by decide) ?_
    refine own_iloadN X177 hx (pc' := 65) rfl (hb hby at_64) rfl ?_
    refine own_iloadN X177 hx (pc' := 66) rfl (hb hby at_65) rfl ?_
    refine own_callS X177 hx hZ (y := (⟨"com/example/rhoquery/rhoquery/PathKindOfPinLaw", "turn", "(ZII)I"⟩ : MethodName)) hown (hw _ (List.mem_of_getElem? (i := 2) rfl)) (hw _ (List.mem_of_getElem? (i := 3) rfl)) (hw _ (List.mem_of_getElem? (i := 4) rfl)) (hw _ (List.mem_of_getElem? (i := 5) rfl))  (by decide) (rm_turn l Z a0 hw [] (1 : Int32) p2 p3 h171 n0 Siz_172) (by decide) (W := 1) (by decide) (by decide) (by decide) e177 (by rw [hml]; rfl) (argsL := [(.int (1 : Int32)), (.int p2), (.int p3)]) (rest := [(.int (own_turn (1 : Int32) p1 p2))]) rfl (lenOf pd__ZII_I rfl) rfl (Nat.le_of_eq rfl) (pc' := 69) rfl (hb hby at_66) ?_
    rintro _ T178 L178 X178 ⟨rfl, N178, e178⟩
    have M178 := Fr.app M177 N178
    show own_Goes p e below T178 (mkF m 69 #[.val (.int p1), .val (.int p2), .val (.int p3), .val (.int p4), .val (.int p5), .val (.int p6), .val (.int (4 : Int32)), .val (.ref o142), .unset, .unset, .unset] [(.int (own_turn (1 : Int32) p2 p3)), (.int (own_turn (1 : Int32) p1 p2))]) _
    refine own_iadd X178 hx (v := ((own_turn (1 : Int32) p1 p2) + (own_turn (1 : Int32) p2 p3))) (pc' := 70) rfl (hb hby at_69) rfl ?_
    refine own_iload X178 hx (pc' := 72) rfl (hb hby at_70) rfl ?_
    refine own_iconst X178 hx (v := (3 : Int32)) (pc' := 73) rfl (hb hby at_72) rfl ?_
    refine own_icmpF X178 hx (pc' := 76) rfl (hb hby at_73) (XT.ii_le_f (by decide)) ?_
    refine own_iconst X178 hx (v := (1 : Int32)) (pc' := 77) rfl (hb hby at_76) rfl ?_
    refine own_goto X178 hx (pc' := 81) (hb hby at_77) (by decide) (by decide) ?_
    refine own_iloadN X178 hx (pc' := 82) rfl (hb hby at_81) rfl ?_
    refine own_iloadN X178 hx (pc' := 83) rfl (hb hby at_82) rfl ?_
    refine own_callS X178 hx hZ (y := (⟨"com/example/rhoquery/rhoquery/PathKindOfPinLaw", "turn", "(ZII)I"⟩ : MethodName)) hown (hw _ (List.mem_of_getElem? (i := 2) rfl)) (hw _ (List.mem_of_getElem? (i := 3) rfl)) (hw _ (List.mem_of_getElem? (i := 4) rfl)) (hw _ (List.mem_of_getElem? (i := 5) rfl))  (by decide) (rm_turn l Z a0 hw [] (1 : Int32) p3 p4 h171 n0 Siz_172) (by decide) (W := 1) (by decide) (by decide) (by decide) e178 (by rw [hml]; rfl) (argsL := [(.int (1 : Int32)), (.int p3), (.int p4)]) (rest := [(.int ((own_turn (1 : Int32) p1 p2) + (own_turn (1 : Int32) p2 p3)))]) rfl (lenOf pd__ZII_I rfl) rfl (Nat.le_of_eq rfl) (pc' := 86) rfl (hb hby at_83) ?_
    rintro _ T179 L179 X179 ⟨rfl, N179, e179⟩
    have M179 := Fr.app M178 N179
    show own_Goes p e below T179 (mkF m 86 #[.val (.int p1), .val (.int p2), .val (.int p3), .val (.int p4), .val (.int p5), .val (.int p6), .val (.int (4 : Int32)), .val (.ref o142), .unset, .unset, .unset] [(.int (own_turn (1 : Int32) p3 p4)), (.int ((own_turn (1 : Int32) p1 p2) + (own_turn (1 : Int32) p2 p3)))]) _
    refine own_iadd X179 hx (v := (((own_turn (1 : Int32) p1 p2) + (own_turn (1 : Int32) p2 p3)) + (own_turn (1 : Int32) p3 p4))) (pc' := 87) rfl (hb hby at_86) rfl ?_
    refine own_iload X179 hx (pc' := 89) rfl (hb hby at_87) rfl ?_
    refine own_iconst X179 hx (v := (4 : Int32)) (pc' := 90) rfl (hb hby at_89) rfl ?_
    refine own_icmpT X179 hx (pc' := 97) (hb hby at_90) (XT.ii_le_t (by decide)) (by decide) (by decide) ?_
    refine own_iconst X179 hx (v := (0 : Int32)) (pc' := 98) rfl (hb hby at_97) rfl ?_
    refine own_iloadN X179 hx (pc' := 99) rfl (hb hby at_98) rfl ?_
    refine own_iload X179 hx (pc' := 101) rfl (hb hby at_99) rfl ?_
    refine own_callS X179 hx hZ (y := (⟨"com/example/rhoquery/rhoquery/PathKindOfPinLaw", "turn", "(ZII)I"⟩ : MethodName)) hown (hw _ (List.mem_of_getElem? (i := 2) rfl)) (hw _ (List.mem_of_getElem? (i := 3) rfl)) (hw _ (List.mem_of_getElem? (i := 4) rfl)) (hw _ (List.mem_of_getElem? (i := 5) rfl))  (by decide) (rm_turn l Z a0 hw [] (0 : Int32) p4 p5 h171 n0 Siz_172) (by decide) (W := 1) (by decide) (by decide) (by decide) e179 (by rw [hml]; rfl) (argsL := [(.int (0 : Int32)), (.int p4), (.int p5)]) (rest := [(.int (((own_turn (1 : Int32) p1 p2) + (own_turn (1 : Int32) p2 p3)) + (own_turn (1 : Int32) p3 p4)))]) rfl (lenOf pd__ZII_I rfl) rfl (Nat.le_of_eq rfl) (pc' := 104) rfl (hb hby at_101) ?_
    rintro _ T180 L180 X180 ⟨rfl, N180, e180⟩
    have M180 := Fr.app M179 N180
    show own_Goes p e below T180 (mkF m 104 #[.val (.int p1), .val (.int p2), .val (.int p3), .val (.int p4), .val (.int p5), .val (.int p6), .val (.int (4 : Int32)), .val (.ref o142), .unset, .unset, .unset] [(.int (own_turn (0 : Int32) p4 p5)), (.int (((own_turn (1 : Int32) p1 p2) + (own_turn (1 : Int32) p2 p3)) + (own_turn (1 : Int32) p3 p4)))]) _
    refine own_iadd X180 hx (v := ((((own_turn (1 : Int32) p1 p2) + (own_turn (1 : Int32) p2 p3)) + (own_turn (1 : Int32) p3 p4)) + (own_turn (0 : Int32) p4 p5))) (pc' := 105) rfl (hb hby at_104) rfl ?_
    have hT : own_tot (4 : Int32) p1 p2 p3 p4 p5 = ((((own_turn (1 : Int32) p1 p2) + (own_turn (1 : Int32) p2 p3)) + (own_turn (1 : Int32) p3 p4)) + (own_turn (0 : Int32) p4 p5)) := rfl
    generalize ((((own_turn (1 : Int32) p1 p2) + (own_turn (1 : Int32) p2 p3)) + (own_turn (1 : Int32) p3 p4)) + (own_turn (0 : Int32) p4 p5)) = T at hT ⊢
    refine own_istore X180 hx (Ls' := #[.val (.int p1), .val (.int p2), .val (.int p3), .val (.int p4), .val (.int p5), .val (.int p6), .val (.int (4 : Int32)), .val (.ref o142), .val (.int T), .unset, .unset]) (pc' := 107) rfl (hb hby at_105) rfl ?_
    refine own_iload X180 hx (pc' := 109) rfl (hb hby at_107) rfl ?_
    by_cases c109_181 : T = 0
    · refine own_ifF X180 hx (pc' := 112) rfl (hb hby at_109) (XT.i0_ne_f c109_181) ?_
      refine own_getS X180 hx hZ hown (hw _ (List.mem_of_getElem? (i := 23) rfl)) Via.refl e180 Sta_173 (pc' := 115) rfl (hb hby at_112) ?_
      intro T182 X182 e182
      refine own_astore X182 hx (Ls' := #[.val (.int p1), .val (.int p2), .val (.int p3), .val (.int p4), .val (.int p5), .val (.int p6), .val (.int (4 : Int32)), .val (.ref o142), .val (.int T), .val (.ref aP), .unset]) (pc' := 117) rfl (hb hby at_115) rfl rfl ?_
      refine own_goto X182 hx (pc' := 139) (hb hby at_117) (by decide) (by decide) ?_
      refine own_aload X182 hx (pc' := 141) rfl (hb hby at_139) rfl rfl ?_
      refine own_iload X182 hx (pc' := 143) rfl (hb hby at_141) rfl ?_
      refine own_callS X182 hx hZ (y := (⟨"com/example/rhoquery/rhoquery/PathKind", "of", "([II)Lcom/example/rhoquery/rhoquery/PathKind;"⟩ : MethodName)) hown (hw _ (List.mem_of_getElem? (i := 9) rfl)) (hw _ (List.mem_of_getElem? (i := 10) rfl)) (hw _ (List.mem_of_getElem? (i := 7) rfl)) (hw _ (List.mem_of_getElem? (i := 11) rfl))  (by decide) (rm_of l Z a0 hw [] (own_upd (own_upd (own_upd (own_upd (own_upd (fun _ => (.int (0 : Int32))) 0 (.int p1)) 1 (.int p2)) 2 (.int p3)) 3 (.int p4)) 4 (.int p5)) p1 p2 p3 p4 p5 aP aJ aC o142 (4 : Int32) h171 n0 Siz_172 A171 Sta_173 Sta_174 Sta_175 ⟨rfl, rfl, rfl, rfl, rfl⟩ (by decide)) (by decide) (W := 0) (by decide) (by decide) (by decide) e182 (by rw [hml]; rfl) (argsL := [(.ref o142), (.int (4 : Int32))]) (rest := []) rfl (lenOf pd___II_Lcom_example_rhoquery_rhoquery_PathKind_ rfl) rfl (Nat.le_of_eq rfl) (pc' := 146) rfl (hb hby at_143) ?_
      rintro _ T183 L183 X183 ⟨rfl, N183, e183⟩
      have M183 := Fr.app M180 N183
      show own_Goes p e below T183 (mkF m 146 #[.val (.int p1), .val (.int p2), .val (.int p3), .val (.int p4), .val (.int p5), .val (.int p6), .val (.int (4 : Int32)), .val (.ref o142), .val (.int T), .val (.ref aP), .unset] [(.ref (own_sel (own_tot (4 : Int32) p1 p2 p3 p4 p5) aP aJ aC))]) _
      rw [show (own_sel (own_tot (4 : Int32) p1 p2 p3 p4 p5) aP aJ aC) = aP from by rw [hT]; simp only [own_sel, if_pos c109_181]]
      refine own_astore X183 hx (Ls' := #[.val (.int p1), .val (.int p2), .val (.int p3), .val (.int p4), .val (.int p5), .val (.int p6), .val (.int (4 : Int32)), .val (.ref o142), .val (.int T), .val (.ref aP), .val (.ref aP)]) (pc' := 148) rfl (hb hby at_146) rfl rfl ?_
      refine own_aload X183 hx (pc' := 150) rfl (hb hby at_148) rfl rfl ?_
      refine own_aload X183 hx (pc' := 152) rfl (hb hby at_150) rfl rfl ?_
      refine own_acmpF X183 hx (pc' := 155) rfl (hb hby at_152) rfl rfl (XT.aa_ne_f rfl) ?_
      refine own_iconst X183 hx (v := (1 : Int32)) (pc' := 156) rfl (hb hby at_155) rfl ?_
      refine own_goto X183 hx (pc' := 160) (hb hby at_156) (by decide) (by decide) ?_
      refine own_zret X183 hx hlk hret (by simp) (hb hby at_160) (by decide) (by decide) ?_
      rw [e183]
      exact ⟨rfl, M183⟩
    · refine own_ifT X180 hx (pc' := 120) (hb hby at_109) (XT.i0_ne_t c109_181) (by decide) (by decide) ?_
      refine own_iload X180 hx (pc' := 122) rfl (hb hby at_120) rfl ?_
      refine own_iconst X180 hx (v := (1 : Int32)) (pc' := 123) rfl (hb hby at_122) rfl ?_
      by_cases c123_184 : T = (1 : Int32)
      · refine own_icmpF X180 hx (pc' := 126) rfl (hb hby at_123) (XT.ii_ne_f c123_184) ?_
        refine own_getS X180 hx hZ hown (hw _ (List.mem_of_getElem? (i := 20) rfl)) Via.refl e180 Sta_174 (pc' := 129) rfl (hb hby at_126) ?_
        intro T185 X185 e185
        refine own_astore X185 hx (Ls' := #[.val (.int p1), .val (.int p2), .val (.int p3), .val (.int p4), .val (.int p5), .val (.int p6), .val (.int (4 : Int32)), .val (.ref o142), .val (.int T), .val (.ref aJ), .unset]) (pc' := 131) rfl (hb hby at_129) rfl rfl ?_
        refine own_goto X185 hx (pc' := 139) (hb hby at_131) (by decide) (by decide) ?_
        refine own_aload X185 hx (pc' := 141) rfl (hb hby at_139) rfl rfl ?_
        refine own_iload X185 hx (pc' := 143) rfl (hb hby at_141) rfl ?_
        refine own_callS X185 hx hZ (y := (⟨"com/example/rhoquery/rhoquery/PathKind", "of", "([II)Lcom/example/rhoquery/rhoquery/PathKind;"⟩ : MethodName)) hown (hw _ (List.mem_of_getElem? (i := 9) rfl)) (hw _ (List.mem_of_getElem? (i := 10) rfl)) (hw _ (List.mem_of_getElem? (i := 7) rfl)) (hw _ (List.mem_of_getElem? (i := 11) rfl))  (by decide) (rm_of l Z a0 hw [] (own_upd (own_upd (own_upd (own_upd (own_upd (fun _ => (.int (0 : Int32))) 0 (.int p1)) 1 (.int p2)) 2 (.int p3)) 3 (.int p4)) 4 (.int p5)) p1 p2 p3 p4 p5 aP aJ aC o142 (4 : Int32) h171 n0 Siz_172 A171 Sta_173 Sta_174 Sta_175 ⟨rfl, rfl, rfl, rfl, rfl⟩ (by decide)) (by decide) (W := 0) (by decide) (by decide) (by decide) e185 (by rw [hml]; rfl) (argsL := [(.ref o142), (.int (4 : Int32))]) (rest := []) rfl (lenOf pd___II_Lcom_example_rhoquery_rhoquery_PathKind_ rfl) rfl (Nat.le_of_eq rfl) (pc' := 146) rfl (hb hby at_143) ?_
        rintro _ T186 L186 X186 ⟨rfl, N186, e186⟩
        have M186 := Fr.app M180 N186
        show own_Goes p e below T186 (mkF m 146 #[.val (.int p1), .val (.int p2), .val (.int p3), .val (.int p4), .val (.int p5), .val (.int p6), .val (.int (4 : Int32)), .val (.ref o142), .val (.int T), .val (.ref aJ), .unset] [(.ref (own_sel (own_tot (4 : Int32) p1 p2 p3 p4 p5) aP aJ aC))]) _
        rw [show (own_sel (own_tot (4 : Int32) p1 p2 p3 p4 p5) aP aJ aC) = aJ from by rw [hT]; simp only [own_sel, if_neg c109_181, if_pos c123_184]]
        refine own_astore X186 hx (Ls' := #[.val (.int p1), .val (.int p2), .val (.int p3), .val (.int p4), .val (.int p5), .val (.int p6), .val (.int (4 : Int32)), .val (.ref o142), .val (.int T), .val (.ref aJ), .val (.ref aJ)]) (pc' := 148) rfl (hb hby at_146) rfl rfl ?_
        refine own_aload X186 hx (pc' := 150) rfl (hb hby at_148) rfl rfl ?_
        refine own_aload X186 hx (pc' := 152) rfl (hb hby at_150) rfl rfl ?_
        refine own_acmpF X186 hx (pc' := 155) rfl (hb hby at_152) rfl rfl (XT.aa_ne_f rfl) ?_
        refine own_iconst X186 hx (v := (1 : Int32)) (pc' := 156) rfl (hb hby at_155) rfl ?_
        refine own_goto X186 hx (pc' := 160) (hb hby at_156) (by decide) (by decide) ?_
        refine own_zret X186 hx hlk hret (by simp) (hb hby at_160) (by decide) (by decide) ?_
        rw [e186]
        exact ⟨rfl, M186⟩
      · refine own_icmpT X180 hx (pc' := 134) (hb hby at_123) (XT.ii_ne_t c123_184) (by decide) (by decide) ?_
        refine own_getS X180 hx hZ hown (hw _ (List.mem_of_getElem? (i := 6) rfl)) Via.refl e180 Sta_175 (pc' := 137) rfl (hb hby at_134) ?_
        intro T187 X187 e187
        refine own_astore X187 hx (Ls' := #[.val (.int p1), .val (.int p2), .val (.int p3), .val (.int p4), .val (.int p5), .val (.int p6), .val (.int (4 : Int32)), .val (.ref o142), .val (.int T), .val (.ref aC), .unset]) (pc' := 139) rfl (hb hby at_137) rfl rfl ?_
        refine own_aload X187 hx (pc' := 141) rfl (hb hby at_139) rfl rfl ?_
        refine own_iload X187 hx (pc' := 143) rfl (hb hby at_141) rfl ?_
        refine own_callS X187 hx hZ (y := (⟨"com/example/rhoquery/rhoquery/PathKind", "of", "([II)Lcom/example/rhoquery/rhoquery/PathKind;"⟩ : MethodName)) hown (hw _ (List.mem_of_getElem? (i := 9) rfl)) (hw _ (List.mem_of_getElem? (i := 10) rfl)) (hw _ (List.mem_of_getElem? (i := 7) rfl)) (hw _ (List.mem_of_getElem? (i := 11) rfl))  (by decide) (rm_of l Z a0 hw [] (own_upd (own_upd (own_upd (own_upd (own_upd (fun _ => (.int (0 : Int32))) 0 (.int p1)) 1 (.int p2)) 2 (.int p3)) 3 (.int p4)) 4 (.int p5)) p1 p2 p3 p4 p5 aP aJ aC o142 (4 : Int32) h171 n0 Siz_172 A171 Sta_173 Sta_174 Sta_175 ⟨rfl, rfl, rfl, rfl, rfl⟩ (by decide)) (by decide) (W := 0) (by decide) (by decide) (by decide) e187 (by rw [hml]; rfl) (argsL := [(.ref o142), (.int (4 : Int32))]) (rest := []) rfl (lenOf pd___II_Lcom_example_rhoquery_rhoquery_PathKind_ rfl) rfl (Nat.le_of_eq rfl) (pc' := 146) rfl (hb hby at_143) ?_
        rintro _ T188 L188 X188 ⟨rfl, N188, e188⟩
        have M188 := Fr.app M180 N188
        show own_Goes p e below T188 (mkF m 146 #[.val (.int p1), .val (.int p2), .val (.int p3), .val (.int p4), .val (.int p5), .val (.int p6), .val (.int (4 : Int32)), .val (.ref o142), .val (.int T), .val (.ref aC), .unset] [(.ref (own_sel (own_tot (4 : Int32) p1 p2 p3 p4 p5) aP aJ aC))]) _
        rw [show (own_sel (own_tot (4 : Int32) p1 p2 p3 p4 p5) aP aJ aC) = aC from by rw [hT]; simp only [own_sel, if_neg c109_181, if_neg c123_184]]
        refine own_astore X188 hx (Ls' := #[.val (.int p1), .val (.int p2), .val (.int p3), .val (.int p4), .val (.int p5), .val (.int p6), .val (.int (4 : Int32)), .val (.ref o142), .val (.int T), .val (.ref aC), .val (.ref aC)]) (pc' := 148) rfl (hb hby at_146) rfl rfl ?_
        refine own_aload X188 hx (pc' := 150) rfl (hb hby at_148) rfl rfl ?_
        refine own_aload X188 hx (pc' := 152) rfl (hb hby at_150) rfl rfl ?_
        refine own_acmpF X188 hx (pc' := 155) rfl (hb hby at_152) rfl rfl (XT.aa_ne_f rfl) ?_
        refine own_iconst X188 hx (v := (1 : Int32)) (pc' := 156) rfl (hb hby at_155) rfl ?_
        refine own_goto X188 hx (pc' := 160) (hb hby at_156) (by decide) (by decide) ?_
        refine own_zret X188 hx hlk hret (by simp) (hb hby at_160) (by decide) (by decide) ?_
        rw [e188]
        exact ⟨rfl, M188⟩
  · refine own_istore X0 hx (Ls' := #[.val (.int p1), .val (.int p2), .val (.int p3), .val (.int p4), .val (.int p5), .val (.int p6), .val (.int (5 : Int32)), .unset, .unset, .unset, .unset]) (pc' := 11) rfl (hb hby at_9) rfl ?_
    refine own_iconst X0 hx (v := (5 : Int32)) (pc' := 12) rfl (hb hby at_11) rfl ?_
    refine own_newarr X0 hx hZ (aty := .int) (hw _ (List.mem_of_getElem? (i := 1) rfl)) e0 (pc' := 14) rfl (hb hby at_12) (by decide) (N := 5) (by decide) (cap := 5) (by decide) (by decide) (by decide) (by decide) ?_
    intro T189 h189 X189 e189 E189 A189
    obtain ⟨o189, g189⟩ : ∃ z, z = h0.size := ⟨_, rfl⟩
    rw [← g189] at A189 ⊢
    have ge189 : n0 ≤ o189 := g189 ▸ Z0
    have Siz_190 := Nat.le_trans Z0 E189.1
    have Sta_191 := Sta.ext E189 S0_
    have Sta_192 := Sta.ext E189 S1_
    have Sta_193 := Sta.ext E189 S2_
    refine own_dup X189 hx (pc' := 15) rfl (hb hby at_14) rfl ?_
    refine own_iconst X189 hx (v := (0 : Int32)) (pc' := 16) rfl (hb hby at_15) rfl ?_
    refine own_iloadN X189 hx (pc' := 17) rfl (hb hby at_16) rfl ?_
    refine own_stI X189 hx hZ e189 A189 (k := 0) (by decide) (by decide) (by decide) (pc' := 18) rfl (hb hby at_17) ?_
    intro T194 h194 X194 e194 W194 A194
    have Siz_195 := own_sizWr W194 Siz_190
    have Sta_196 := Sta.wr W194 Sta_191
    have Sta_197 := Sta.wr W194 Sta_192
    have Sta_198 := Sta.wr W194 Sta_193
    have N194 := Fr.snoc X194 N0 ge189
    refine own_dup X194 hx (pc' := 19) rfl (hb hby at_18) rfl ?_
    refine own_iconst X194 hx (v := (1 : Int32)) (pc' := 20) rfl (hb hby at_19) rfl ?_
    refine own_iloadN X194 hx (pc' := 21) rfl (hb hby at_20) rfl ?_
    refine own_stI X194 hx hZ e194 A194 (k := 1) (by decide) (by decide) (by decide) (pc' := 22) rfl (hb hby at_21) ?_
    intro T200 h200 X200 e200 W200 A200
    have Siz_201 := own_sizWr W200 Siz_195
    have Sta_202 := Sta.wr W200 Sta_196
    have Sta_203 := Sta.wr W200 Sta_197
    have Sta_204 := Sta.wr W200 Sta_198
    have N200 := Fr.snoc X200 N194 ge189
    refine own_dup X200 hx (pc' := 23) rfl (hb hby at_22) rfl ?_
    refine own_iconst X200 hx (v := (2 : Int32)) (pc' := 24) rfl (hb hby at_23) rfl ?_
    refine own_iloadN X200 hx (pc' := 25) rfl (hb hby at_24) rfl ?_
    refine own_stI X200 hx hZ e200 A200 (k := 2) (by decide) (by decide) (by decide) (pc' := 26) rfl (hb hby at_25) ?_
    intro T206 h206 X206 e206 W206 A206
    have Siz_207 := own_sizWr W206 Siz_201
    have Sta_208 := Sta.wr W206 Sta_202
    have Sta_209 := Sta.wr W206 Sta_203
    have Sta_210 := Sta.wr W206 Sta_204
    have N206 := Fr.snoc X206 N200 ge189
    refine own_dup X206 hx (pc' := 27) rfl (hb hby at_26) rfl ?_
    refine own_iconst X206 hx (v := (3 : Int32)) (pc' := 28) rfl (hb hby at_27) rfl ?_
    refine own_iloadN X206 hx (pc' := 29) rfl (hb hby at_28) rfl ?_
    refine own_stI X206 hx hZ e206 A206 (k := 3) (by decide) (by decide) (by decide) (pc' := 30) rfl (hb hby at_29) ?_
    intro T212 h212 X212 e212 W212 A212
    have Siz_213 := own_sizWr W212 Siz_207
    have Sta_214 := Sta.wr W212 Sta_208
    have Sta_215 := Sta.wr W212 Sta_209
    have Sta_216 := Sta.wr W212 Sta_210
    have N212 := Fr.snoc X212 N206 ge189
    refine own_dup X212 hx (pc' := 31) rfl (hb hby at_30) rfl ?_
    refine own_iconst X212 hx (v := (4 : Int32)) (pc' := 32) rfl (hb hby at_31) rfl ?_
    refine own_iload X212 hx (pc' := 34) rfl (hb hby at_32) rfl ?_
    refine own_stI X212 hx hZ e212 A212 (k := 4) (by decide) (by decide) (by decide) (pc' := 35) rfl (hb hby at_34) ?_
    intro T218 h218 X218 e218 W218 A218
    have Siz_219 := own_sizWr W218 Siz_213
    have Sta_220 := Sta.wr W218 Sta_214
    have Sta_221 := Sta.wr W218 Sta_215
    have Sta_222 := Sta.wr W218 Sta_216
    have N218 := Fr.snoc X218 N212 ge189
    refine own_astore X218 hx (Ls' := #[.val (.int p1), .val (.int p2), .val (.int p3), .val (.int p4), .val (.int p5), .val (.int p6), .val (.int (5 : Int32)), .val (.ref o189), .unset, .unset, .unset]) (pc' := 37) rfl (hb hby at_35) rfl rfl ?_
    refine own_iload X218 hx (pc' := 39) rfl (hb hby at_37) rfl ?_
    refine own_iconst X218 hx (v := (1 : Int32)) (pc' := 40) rfl (hb hby at_39) rfl ?_
    refine own_icmpF X218 hx (pc' := 43) rfl (hb hby at_40) (XT.ii_le_f (by decide)) ?_
    refine own_iconst X218 hx (v := (1 : Int32)) (pc' := 44) rfl (hb hby at_43) rfl ?_
    refine own_goto X218 hx (pc' := 48) (hb hby at_44) (by decide) (by decide) ?_
    refine own_iloadN X218 hx (pc' := 49) rfl (hb hby at_48) rfl ?_
    refine own_iloadN X218 hx (pc' := 50) rfl (hb hby at_49) rfl ?_
    refine own_callS X218 hx hZ (y := (⟨"com/example/rhoquery/rhoquery/PathKindOfPinLaw", "turn", "(ZII)I"⟩ : MethodName)) hown (hw _ (List.mem_of_getElem? (i := 2) rfl)) (hw _ (List.mem_of_getElem? (i := 3) rfl)) (hw _ (List.mem_of_getElem? (i := 4) rfl)) (hw _ (List.mem_of_getElem? (i := 5) rfl))  (by decide) (rm_turn l Z a0 hw [] (1 : Int32) p1 p2 h218 n0 Siz_219) (by decide) (W := 0) (by decide) (by decide) (by decide) e218 (by rw [hml]; rfl) (argsL := [(.int (1 : Int32)), (.int p1), (.int p2)]) (rest := []) rfl (lenOf pd__ZII_I rfl) rfl (Nat.le_of_eq rfl) (pc' := 53) rfl (hb hby at_50) ?_
    rintro _ T224 L224 X224 ⟨rfl, N224, e224⟩
    have M224 := Fr.app N218 N224
    show own_Goes p e below T224 (mkF m 53 #[.val (.int p1), .val (.int p2), .val (.int p3), .val (.int p4), .val (.int p5), .val (.int p6), .val (.int (5 : Int32)), .val (.ref o189), .unset, .unset, .unset] [(.int (own_turn (1 : Int32) p1 p2))]) _
    refine own_iload X224 hx (pc' := 55) rfl (hb hby at_53) rfl ?_
    refine own_iconst X224 hx (v := (2 : Int32)) (pc' := 56) rfl (hb hby at_55) rfl ?_
    refine own_icmpF X224 hx (pc' := 59) rfl (hb hby at_56) (XT.ii_le_f (by decide)) ?_
    refine own_iconst X224 hx (v := (1 : Int32)) (pc' := 60) rfl (hb hby at_59) rfl ?_
    refine own_goto X224 hx (pc' := 64) (hb hby at_60) (by decide) (by decide) ?_
    refine own_iloadN X224 hx (pc' := 65) rfl (hb hby at_64) rfl ?_
    refine own_iloadN X224 hx (pc' := 66) rfl (hb hby at_65) rfl ?_
    refine own_callS X224 hx hZ (y := (⟨"com/example/rhoquery/rhoquery/PathKindOfPinLaw", "turn", "(ZII)I"⟩ : MethodName)) hown (hw _ (List.mem_of_getElem? (i := 2) rfl)) (hw _ (List.mem_of_getElem? (i := 3) rfl)) (hw _ (List.mem_of_getElem? (i := 4) rfl)) (hw _ (List.mem_of_getElem? (i := 5) rfl))  (by decide) (rm_turn l Z a0 hw [] (1 : Int32) p2 p3 h218 n0 Siz_219) (by decide) (W := 1) (by decide) (by decide) (by decide) e224 (by rw [hml]; rfl) (argsL := [(.int (1 : Int32)), (.int p2), (.int p3)]) (rest := [(.int (own_turn (1 : Int32) p1 p2))]) rfl (lenOf pd__ZII_I rfl) rfl (Nat.le_of_eq rfl) (pc' := 69) rfl (hb hby at_66) ?_
    rintro _ T225 L225 X225 ⟨rfl, N225, e225⟩
    have M225 := Fr.app M224 N225
    show own_Goes p e below T225 (mkF m 69 #[.val (.int p1), .val (.int p2), .val (.int p3), .val (.int p4), .val (.int p5), .val (.int p6), .val (.int (5 : Int32)), .val (.ref o189), .unset, .unset, .unset] [(.int (own_turn (1 : Int32) p2 p3)), (.int (own_turn (1 : Int32) p1 p2))]) _
    refine own_iadd X225 hx (v := ((own_turn (1 : Int32) p1 p2) + (own_turn (1 : Int32) p2 p3))) (pc' := 70) rfl (hb hby at_69) rfl ?_
    refine own_iload X225 hx (pc' := 72) rfl (hb hby at_70) rfl ?_
    refine own_iconst X225 hx (v := (3 : Int32)) (pc' := 73) rfl (hb hby at_72) rfl ?_
    refine own_icmpF X225 hx (pc' := 76) rfl (hb hby at_73) (XT.ii_le_f (by decide)) ?_
    refine own_iconst X225 hx (v := (1 : Int32)) (pc' := 77) rfl (hb hby at_76) rfl ?_
    refine own_goto X225 hx (pc' := 81) (hb hby at_77) (by decide) (by decide) ?_
    refine own_iloadN X225 hx (pc' := 82) rfl (hb hby at_81) rfl ?_
    refine own_iloadN X225 hx (pc' := 83) rfl (hb hby at_82) rfl ?_
    refine own_callS X225 hx hZ (y := (⟨"com/example/rhoquery/rhoquery/PathKindOfPinLaw", "turn", "(ZII)I"⟩ : MethodName)) hown (hw _ (List.mem_of_getElem? (i := 2) rfl)) (hw _ (List.mem_of_getElem? (i := 3) rfl)) (hw _ (List.mem_of_getElem? (i := 4) rfl)) (hw _ (List.mem_of_getElem? (i := 5) rfl))  (by decide) (rm_turn l Z a0 hw [] (1 : Int32) p3 p4 h218 n0 Siz_219) (by decide) (W := 1) (by decide) (by decide) (by decide) e225 (by rw [hml]; rfl) (argsL := [(.int (1 : Int32)), (.int p3), (.int p4)]) (rest := [(.int ((own_turn (1 : Int32) p1 p2) + (own_turn (1 : Int32) p2 p3)))]) rfl (lenOf pd__ZII_I rfl) rfl (Nat.le_of_eq rfl) (pc' := 86) rfl (hb hby at_83) ?_
    rintro _ T226 L226 X226 ⟨rfl, N226, e226⟩
    have M226 := Fr.app M225 N226
    show own_Goes p e below T226 (mkF m 86 #[.val (.int p1), .val (.int p2), .val (.int p3), .val (.int p4), .val (.int p5), .val (.int p6), .val (.int (5 : Int32)), .val (.ref o189), .unset, .unset, .unset] [(.int (own_turn (1 : Int32) p3 p4)), (.int ((own_turn (1 : Int32) p1 p2) + (own_turn (1 : Int32) p2 p3)))]) _
    refine own_iadd X226 hx (v := (((own_turn (1 : Int32) p1 p2) + (own_turn (1 : Int32) p2 p3)) + (own_turn (1 : Int32) p3 p4))) (pc' := 87) rfl (hb hby at_86) rfl ?_
    refine own_iload X226 hx (pc' := 89) rfl (hb hby at_87) rfl ?_
    refine own_iconst X226 hx (v := (4 : Int32)) (pc' := 90) rfl (hb hby at_89) rfl ?_
    refine own_icmpF X226 hx (pc' := 93) rfl (hb hby at_90) (XT.ii_le_f (by decide)) ?_
    refine own_iconst X226 hx (v := (1 : Int32)) (pc' := 94) rfl (hb hby at_93) rfl ?_
    refine own_goto X226 hx (pc' := 98) (hb hby at_94) (by decide) (by decide) ?_
    refine own_iloadN X226 hx (pc' := 99) rfl (hb hby at_98) rfl ?_
    refine own_iload X226 hx (pc' := 101) rfl (hb hby at_99) rfl ?_
    refine own_callS X226 hx hZ (y := (⟨"com/example/rhoquery/rhoquery/PathKindOfPinLaw", "turn", "(ZII)I"⟩ : MethodName)) hown (hw _ (List.mem_of_getElem? (i := 2) rfl)) (hw _ (List.mem_of_getElem? (i := 3) rfl)) (hw _ (List.mem_of_getElem? (i := 4) rfl)) (hw _ (List.mem_of_getElem? (i := 5) rfl))  (by decide) (rm_turn l Z a0 hw [] (1 : Int32) p4 p5 h218 n0 Siz_219) (by decide) (W := 1) (by decide) (by decide) (by decide) e226 (by rw [hml]; rfl) (argsL := [(.int (1 : Int32)), (.int p4), (.int p5)]) (rest := [(.int (((own_turn (1 : Int32) p1 p2) + (own_turn (1 : Int32) p2 p3)) + (own_turn (1 : Int32) p3 p4)))]) rfl (lenOf pd__ZII_I rfl) rfl (Nat.le_of_eq rfl) (pc' := 104) rfl (hb hby at_101) ?_
    rintro _ T227 L227 X227 ⟨rfl, N227, e227⟩
    have M227 := Fr.app M226 N227
    show own_Goes p e below T227 (mkF m 104 #[.val (.int p1), .val (.int p2), .val (.int p3), .val (.int p4), .val (.int p5), .val (.int p6), .val (.int (5 : Int32)), .val (.ref o189), .unset, .unset, .unset] [(.int (own_turn (1 : Int32) p4 p5)), (.int (((own_turn (1 : Int32) p1 p2) + (own_turn (1 : Int32) p2 p3)) + (own_turn (1 : Int32) p3 p4)))]) _
    refine own_iadd X227 hx (v := ((((own_turn (1 : Int32) p1 p2) + (own_turn (1 : Int32) p2 p3)) + (own_turn (1 : Int32) p3 p4)) + (own_turn (1 : Int32) p4 p5))) (pc' := 105) rfl (hb hby at_104) rfl ?_
    have hT : own_tot (5 : Int32) p1 p2 p3 p4 p5 = ((((own_turn (1 : Int32) p1 p2) + (own_turn (1 : Int32) p2 p3)) + (own_turn (1 : Int32) p3 p4)) + (own_turn (1 : Int32) p4 p5)) := rfl
    generalize ((((own_turn (1 : Int32) p1 p2) + (own_turn (1 : Int32) p2 p3)) + (own_turn (1 : Int32) p3 p4)) + (own_turn (1 : Int32) p4 p5)) = T at hT ⊢
    refine own_istore X227 hx (Ls' := #[.val (.int p1), .val (.int p2), .val (.int p3), .val (.int p4), .val (.int p5), .val (.int p6), .val (.int (5 : Int32)), .val (.ref o189), .val (.int T), .unset, .unset]) (pc' := 107) rfl (hb hby at_105) rfl ?_
    refine own_iload X227 hx (pc' := 109) rfl (hb hby at_107) rfl ?_
    by_cases c109_228 : T = 0
    · refine own_ifF X227 hx (pc' := 112) rfl (hb hby at_109) (XT.i0_ne_f c109_228) ?_
      refine own_getS X227 hx hZ hown (hw _ (List.mem_of_getElem? (i := 23) rfl)) Via.refl e227 Sta_220 (pc' := 115) rfl (hb hby at_112) ?_
      intro T229 X229 e229
      refine own_astore X229 hx (Ls' := #[.val (.int p1), .val (.int p2), .val (.int p3), .val (.int p4), .val (.int p5), .val (.int p6), .val (.int (5 : Int32)), .val (.ref o189), .val (.int T), .val (.ref aP), .unset]) (pc' := 117) rfl (hb hby at_115) rfl rfl ?_
      refine own_goto X229 hx (pc' := 139) (hb hby at_117) (by decide) (by decide) ?_
      refine own_aload X229 hx (pc' := 141) rfl (hb hby at_139) rfl rfl ?_
      refine own_iload X229 hx (pc' := 143) rfl (hb hby at_141) rfl ?_
      refine own_callS X229 hx hZ (y := (⟨"com/example/rhoquery/rhoquery/PathKind", "of", "([II)Lcom/example/rhoquery/rhoquery/PathKind;"⟩ : MethodName)) hown (hw _ (List.mem_of_getElem? (i := 9) rfl)) (hw _ (List.mem_of_getElem? (i := 10) rfl)) (hw _ (List.mem_of_getElem? (i := 7) rfl)) (hw _ (List.mem_of_getElem? (i := 11) rfl))  (by decide) (rm_of l Z a0 hw [] (own_upd (own_upd (own_upd (own_upd (own_upd (fun _ => (.int (0 : Int32))) 0 (.int p1)) 1 (.int p2)) 2 (.int p3)) 3 (.int p4)) 4 (.int p5)) p1 p2 p3 p4 p5 aP aJ aC o189 (5 : Int32) h218 n0 Siz_219 A218 Sta_220 Sta_221 Sta_222 ⟨rfl, rfl, rfl, rfl, rfl⟩ (by decide)) (by decide) (W := 0) (by decide) (by decide) (by decide) e229 (by rw [hml]; rfl) (argsL := [(.ref o189), (.int (5 : Int32))]) (rest := []) rfl (lenOf pd___II_Lcom_example_rhoquery_rhoquery_PathKind_ rfl) rfl (Nat.le_of_eq rfl) (pc' := 146) rfl (hb hby at_143) ?_
      rintro _ T230 L230 X230 ⟨rfl, N230, e230⟩
      have M230 := Fr.app M227 N230
      show own_Goes p e below T230 (mkF m 146 #[.val (.int p1), .val (.int p2), .val (.int p3), .val (.int p4), .val (.int p5), .val (.int p6), .val (.int (5 : Int32)), .val (.ref o189), .val (.int T), .val (.ref aP), .unset] [(.ref (own_sel (own_tot (5 : Int32) p1 p2 p3 p4 p5) aP aJ aC))]) _
      rw [show (own_sel (own_tot (5 : Int32) p1 p2 p3 p4 p5) aP aJ aC) = aP from by rw [hT]; simp only [own_sel, if_pos c109_228]]
      refine own_astore X230 hx (Ls' := #[.val (.int p1), .val (.int p2), .val (.int p3), .val (.int p4), .val (.int p5), .val (.int p6), .val (.int (5 : Int32)), .val (.ref o189), .val (.int T), .val (.ref aP), .val (.ref aP)]) (pc' := 148) rfl (hb hby at_146) rfl rfl ?_
      refine own_aload X230 hx (pc' := 150) rfl (hb hby at_148) rfl rfl ?_
      refine own_aload X230 hx (pc' := 152) rfl (hb hby at_150) rfl rfl ?_
      refine own_acmpF X230 hx (pc' := 155) rfl (hb hby at_152) rfl rfl (XT.aa_ne_f rfl) ?_
      refine own_iconst X230 hx (v := (1 : Int32)) (pc' := 156) rfl (hb hby at_155) rfl ?_
      refine own_goto X230 hx (pc' := 160) (hb hby at_156) (by decide) (by decide) ?_
      refine own_zret X230 hx hlk hret (by simp) (hb hby at_160) (by decide) (by decide) ?_
      rw [e230]
      exact ⟨rfl, M230⟩
    · refine own_ifT X227 hx (pc' := 120) (hb hby at_109) (XT.i0_ne_t c109_228) (by decide) (by decide) ?_
      refine own_iload X227 hx (pc' := 122) rfl (hb hby at_120) rfl ?_
      refine own_iconst X227 hx (v := (1 : Int32)) (pc' := 123) rfl (hb hby at_122) rfl ?_
      by_cases c123_231 : T = (1 : Int32)
      · refine own_icmpF X227 hx (pc' := 126) rfl (hb hby at_123) (XT.ii_ne_f c123_231) ?_
        refine own_getS X227 hx hZ hown (hw _ (List.mem_of_getElem? (i := 20) rfl)) Via.refl e227 Sta_221 (pc' := 129) rfl (hb hby at_126) ?_
        intro T232 X232 e232
        refine own_astore X232 hx (Ls' := #[.val (.int p1), .val (.int p2), .val (.int p3), .val (.int p4), .val (.int p5), .val (.int p6), .val (.int (5 : Int32)), .val (.ref o189), .val (.int T), .val (.ref aJ), .unset]) (pc' := 131) rfl (hb hby at_129) rfl rfl ?_
        refine own_goto X232 hx (pc' := 139) (hb hby at_131) (by decide) (by decide) ?_
        refine own_aload X232 hx (pc' := 141) rfl (hb hby at_139) rfl rfl ?_
        refine own_iload X232 hx (pc' := 143) rfl (hb hby at_141) rfl ?_
        refine own_callS X232 hx hZ (y := (⟨"com/example/rhoquery/rhoquery/PathKind", "of", "([II)Lcom/example/rhoquery/rhoquery/PathKind;"⟩ : MethodName)) hown (hw _ (List.mem_of_getElem? (i := 9) rfl)) (hw _ (List.mem_of_getElem? (i := 10) rfl)) (hw _ (List.mem_of_getElem? (i := 7) rfl)) (hw _ (List.mem_of_getElem? (i := 11) rfl))  (by decide) (rm_of l Z a0 hw [] (own_upd (own_upd (own_upd (own_upd (own_upd (fun _ => (.int (0 : Int32))) 0 (.int p1)) 1 (.int p2)) 2 (.int p3)) 3 (.int p4)) 4 (.int p5)) p1 p2 p3 p4 p5 aP aJ aC o189 (5 : Int32) h218 n0 Siz_219 A218 Sta_220 Sta_221 Sta_222 ⟨rfl, rfl, rfl, rfl, rfl⟩ (by decide)) (by decide) (W := 0) (by decide) (by decide) (by decide) e232 (by rw [hml]; rfl) (argsL := [(.ref o189), (.int (5 : Int32))]) (rest := []) rfl (lenOf pd___II_Lcom_example_rhoquery_rhoquery_PathKind_ rfl) rfl (Nat.le_of_eq rfl) (pc' := 146) rfl (hb hby at_143) ?_
        rintro _ T233 L233 X233 ⟨rfl, N233, e233⟩
        have M233 := Fr.app M227 N233
        show own_Goes p e below T233 (mkF m 146 #[.val (.int p1), .val (.int p2), .val (.int p3), .val (.int p4), .val (.int p5), .val (.int p6), .val (.int (5 : Int32)), .val (.ref o189), .val (.int T), .val (.ref aJ), .unset] [(.ref (own_sel (own_tot (5 : Int32) p1 p2 p3 p4 p5) aP aJ aC))]) _
        rw [show (own_sel (own_tot (5 : Int32) p1 p2 p3 p4 p5) aP aJ aC) = aJ from by rw [hT]; simp only [own_sel, if_neg c109_228, if_pos c123_231]]
        refine own_astore X233 hx (Ls' := #[.val (.int p1), .val (.int p2), .val (.int p3), .val (.int p4), .val (.int p5), .val (.int p6), .val (.int (5 : Int32)), .val (.ref o189), .val (.int T), .val (.ref aJ), .val (.ref aJ)]) (pc' := 148) rfl (hb hby at_146) rfl rfl ?_
        refine own_aload X233 hx (pc' := 150) rfl (hb hby at_148) rfl rfl ?_
        refine own_aload X233 hx (pc' := 152) rfl (hb hby at_150) rfl rfl ?_
        refine own_acmpF X233 hx (pc' := 155) rfl (hb hby at_152) rfl rfl (XT.aa_ne_f rfl) ?_
        refine own_iconst X233 hx (v := (1 : Int32)) (pc' := 156) rfl (hb hby at_155) rfl ?_
        refine own_goto X233 hx (pc' := 160) (hb hby at_156) (by decide) (by decide) ?_
        refine own_zret X233 hx hlk hret (by simp) (hb hby at_160) (by decide) (by decide) ?_
        rw [e233]
        exact ⟨rfl, M233⟩
      · refine own_icmpT X227 hx (pc' := 134) (hb hby at_123) (XT.ii_ne_t c123_231) (by decide) (by decide) ?_
        refine own_getS X227 hx hZ hown (hw _ (List.mem_of_getElem? (i := 6) rfl)) Via.refl e227 Sta_222 (pc' := 137) rfl (hb hby at_134) ?_
        intro T234 X234 e234
        refine own_astore X234 hx (Ls' := #[.val (.int p1), .val (.int p2), .val (.int p3), .val (.int p4), .val (.int p5), .val (.int p6), .val (.int (5 : Int32)), .val (.ref o189), .val (.int T), .val (.ref aC), .unset]) (pc' := 139) rfl (hb hby at_137) rfl rfl ?_
        refine own_aload X234 hx (pc' := 141) rfl (hb hby at_139) rfl rfl ?_
        refine own_iload X234 hx (pc' := 143) rfl (hb hby at_141) rfl ?_
        refine own_callS X234 hx hZ (y := (⟨"com/example/rhoquery/rhoquery/PathKind", "of", "([II)Lcom/example/rhoquery/rhoquery/PathKind;"⟩ : MethodName)) hown (hw _ (List.mem_of_getElem? (i := 9) rfl)) (hw _ (List.mem_of_getElem? (i := 10) rfl)) (hw _ (List.mem_of_getElem? (i := 7) rfl)) (hw _ (List.mem_of_getElem? (i := 11) rfl))  (by decide) (rm_of l Z a0 hw [] (own_upd (own_upd (own_upd (own_upd (own_upd (fun _ => (.int (0 : Int32))) 0 (.int p1)) 1 (.int p2)) 2 (.int p3)) 3 (.int p4)) 4 (.int p5)) p1 p2 p3 p4 p5 aP aJ aC o189 (5 : Int32) h218 n0 Siz_219 A218 Sta_220 Sta_221 Sta_222 ⟨rfl, rfl, rfl, rfl, rfl⟩ (by decide)) (by decide) (W := 0) (by decide) (by decide) (by decide) e234 (by rw [hml]; rfl) (argsL := [(.ref o189), (.int (5 : Int32))]) (rest := []) rfl (lenOf pd___II_Lcom_example_rhoquery_rhoquery_PathKind_ rfl) rfl (Nat.le_of_eq rfl) (pc' := 146) rfl (hb hby at_143) ?_
        rintro _ T235 L235 X235 ⟨rfl, N235, e235⟩
        have M235 := Fr.app M227 N235
        show own_Goes p e below T235 (mkF m 146 #[.val (.int p1), .val (.int p2), .val (.int p3), .val (.int p4), .val (.int p5), .val (.int p6), .val (.int (5 : Int32)), .val (.ref o189), .val (.int T), .val (.ref aC), .unset] [(.ref (own_sel (own_tot (5 : Int32) p1 p2 p3 p4 p5) aP aJ aC))]) _
        rw [show (own_sel (own_tot (5 : Int32) p1 p2 p3 p4 p5) aP aJ aC) = aC from by rw [hT]; simp only [own_sel, if_neg c109_228, if_neg c123_231]]
        refine own_astore X235 hx (Ls' := #[.val (.int p1), .val (.int p2), .val (.int p3), .val (.int p4), .val (.int p5), .val (.int p6), .val (.int (5 : Int32)), .val (.ref o189), .val (.int T), .val (.ref aC), .val (.ref aC)]) (pc' := 148) rfl (hb hby at_146) rfl rfl ?_
        refine own_aload X235 hx (pc' := 150) rfl (hb hby at_148) rfl rfl ?_
        refine own_aload X235 hx (pc' := 152) rfl (hb hby at_150) rfl rfl ?_
        refine own_acmpF X235 hx (pc' := 155) rfl (hb hby at_152) rfl rfl (XT.aa_ne_f rfl) ?_
        refine own_iconst X235 hx (v := (1 : Int32)) (pc' := 156) rfl (hb hby at_155) rfl ?_
        refine own_goto X235 hx (pc' := 160) (hb hby at_156) (by decide) (by decide) ?_
        refine own_zret X235 hx hlk hret (by simp) (hb hby at_160) (by decide) (by decide) ?_
        rw [e235]
        exact ⟨rfl, M235⟩
set_option maxRecDepth 65536 in
set_option maxHeartbeats 40000000 in
theorem comes_1 {Post : Tables → Env → Array Value → State → Outcome → State → Prop} (hpost : ∀ tb e args s v u, (limb_1_1.after args s (.returned v) u = true ∧ limb_1_2.after args s (.returned v) u = true ∧ True) → FrameEnd s (.returned v) u (Jvm.fieldLocs frame_1_writes args s ++ Jvm.arrayLocs frame_1_arrays args s ++ Jvm.staticLocs frame_1_statics s) 16 128 → Post tb e args s (.returned v) u) :
    ArmFor flags0 classFile x code maxLocals ret World_1 tables_1 room_1 Calls_1 rest_1 Pre_1 Post := by
  intro l hfl _ _ p e ha hc hk s m args below hf hA hF happ hP
  obtain ⟨hcalls, hrest, hpre⟩ := hP
  obtain ⟨-, -, -, hnamed, -, -, -, hat⟩ := (Spec.applies_iff hf).mp happ
  obtain ⟨hg, hn⟩ := and_e (Cond.before_iff.mp (show (Jvm.Cond.and given_1 narrow_1).before args s = true from hpre))
  obtain ⟨h1, hg1⟩ := and_e hg
  obtain ⟨w0, w1, w2, w3, w4, w5, rfl⟩ : ∃ w0 w1 w2 w3 w4 w5 : Value, args = #[w0, w1, w2, w3, w4, w5] := by
    have hs : args.size = 6 := by simpa [Cond.value, given_1] using h1
    obtain ⟨L⟩ := args
    match L, hs with
    | [w0, w1, w2, w3, w4, w5], _ => exact ⟨w0, w1, w2, w3, w4, w5, rfl⟩
  have hw := fun d (hd : d ∈ tables_1) => atoms_spec (ws := Jvm.Cond.code x code maxLocals ret :: tables_1) hat d (List.mem_cons_of_mem _ hd)
  have hfit : Fit s := fun {y c} hc i hi => by
    obtain ⟨ha, rfl⟩ := Array.getElem?_eq_some_iff.mp hc
    have q := List.all_eq_true.mp ((Array.all_eq_true_iff_forall_mem.mp hF) _ (Array.getElem_mem ha)) i (List.mem_range.mpr hi)
    simpa [Array.getElem?_eq_getElem hi] using q
  obtain ⟨q0, hg2⟩ := and_e hg1
  obtain ⟨i0, ee0⟩ := is_v q0
  obtain rfl : w0 = (.int i0) := Option.some.inj ee0
  obtain ⟨q1, hg3⟩ := and_e hg2
  obtain ⟨i1, ee1⟩ := is_v q1
  obtain rfl : w1 = (.int i1) := Option.some.inj ee1
  obtain ⟨q2, hg4⟩ := and_e hg3
  obtain ⟨i2, ee2⟩ := is_v q2
  obtain rfl : w2 = (.int i2) := Option.some.inj ee2
  obtain ⟨q3, hg5⟩ := and_e hg4
  obtain ⟨i3, ee3⟩ := is_v q3
  obtain rfl : w3 = (.int i3) := Option.some.inj ee3
  obtain ⟨q4, hg6⟩ := and_e hg5
  obtain ⟨i4, ee4⟩ := is_v q4
  obtain rfl : w4 = (.int i4) := Option.some.inj ee4
  obtain ⟨i5, ee5⟩ := is_v hg6
  obtain rfl : w5 = (.int i5) := Option.some.inj ee5
  obtain ⟨n1, hn2⟩ := and_e hn
  obtain ⟨n2, n3⟩ := and_e hn2
  obtain ⟨aC, eaC⟩ := exa_v n1
  have SaC : Sta s s.heap "com/example/rhoquery/rhoquery/PathKind" "CONNECTION" "Lcom/example/rhoquery/rhoquery/PathKind;" (.ref aC) := Sta.start eaC (Or.inr ⟨(hw _ (List.mem_of_getElem? (i := 7) rfl)), (hw _ (List.mem_of_getElem? (i := 8) rfl))⟩)
  obtain ⟨aJ, eaJ⟩ := exa_v n2
  have SaJ : Sta s s.heap "com/example/rhoquery/rhoquery/PathKind" "JOIN" "Lcom/example/rhoquery/rhoquery/PathKind;" (.ref aJ) := Sta.start eaJ (Or.inr ⟨(hw _ (List.mem_of_getElem? (i := 7) rfl)), (hw _ (List.mem_of_getElem? (i := 21) rfl))⟩)
  obtain ⟨aP, eaP⟩ := exa_v n3
  have SaP : Sta s s.heap "com/example/rhoquery/rhoquery/PathKind" "PATH" "Lcom/example/rhoquery/rhoquery/PathKind;" (.ref aP) := Sta.start eaP (Or.inr ⟨(hw _ (List.mem_of_getElem? (i := 7) rfl)), (hw _ (List.mem_of_getElem? (i := 24) rfl))⟩)
  obtain ⟨n, o, h1, h2, h3, _, L, rfl, ⟨rfl, N⟩, hq⟩ := rm_law l s _ hw tables_1 aP aJ aC i0 i1 i2 i3 i4 i5 s.heap s.heap.size (Nat.le_refl _) SaP SaJ SaC p e ha hc hk s m _ below hf ((Spec.applies_iff_loose hf).mp happ).1 ⟨rfl, State.Warmed39.refl s, rfl⟩ trivial
  refine ⟨n, _, h1, h2, h3, hpost _ _ _ _ _ _ ⟨Cond.after_iff.mpr rfl, Cond.after_iff.mpr (eq_i res_at (Term.int_eval (1)) rfl), trivial⟩ ⟨hq.1, hq.2.1, (hq.2.2.sift fun y hy => Or.inr (N y hy)).mono (by decide) (by decide)⟩⟩
theorem main_1_1 : Claimed_1_1 := comes_1 fun _ _ _ _ _ _ h hF => ⟨h.1, hF⟩
theorem main_1_2 : Claimed_1_2 := comes_1 fun _ _ _ _ _ _ h hF => ⟨h.2.1, hF⟩
end Jvm.Pilot.@@N@@
namespace Jvm.Pilot.@@N@@
open Jvm Jvm.ClassFile Sem Op Lib Jvm.Free Jvm.Stand Jvm.Pilot.@@N@@.Jvm.D
/-! MADE BY PROGRAM (witnessworld.py) out of the Statement's table words and the real class files: 13 classes; the members and pool entries that the words name. The judged class is class 1, her method 2. -/
namespace start1
open Jvm.ClassFile
def u (s : String) : CpInfo := .utf8 (stringToUtf16 s)
/-- a pool by its gaps: so many unusable entries, then the entry; so many at the end -/
def gap : Nat → List CpInfo → List CpInfo
  | 0, r => r
  | n + 1, r => .unusable :: gap n r
def poolList (es : List (Nat × CpInfo)) (last : Nat) : List CpInfo := es.foldr (fun e r => gap e.1 (e.2 :: r)) (gap last [])
def pool (es : List (Nat × CpInfo)) (last : Nat) : Array CpInfo := ⟨poolList es last⟩
def fileOf (pool : Array CpInfo) (this : Nat) (attrs : Array Attribute := #[]) (ms : Array MethodInfo := #[]) (fl : Nat := 33) (sup : Nat := 0) (ifs : Array Nat := #[]) (fds : Array FieldInfo := #[]) : ClassFile where
  minorVersion := 0
  majorVersion := 65
  constantPool := pool
  accessFlags := fl
  thisClass := this
  superClass := sup
  interfaces := ifs
  fields := fds
  methods := ms
  attributes := attrs
def plain (name : String) (sup : Option ClassId) : Class where
  name := name
  kind := .ordinary
  loader := none
  accessFlags := 33
  super := sup
  interfaces := #[]
  cf := none
  fields := #[]
  methods := #[]
  instanceTypes := #[]
  staticTypes := #[]
  resolved := #[]
  callSites := []
  init := .initialized
  statics := none
  mirror := none

def pool0 : Array CpInfo := pool [(5, u "<init>"), (0, u "()V"), (1, .class_ 10), (1, u "java/lang/Object")] 113

def k0m0 : Method := { name := "<init>", desc := "()V", sig := { parameters := [], returnType := none }, accessFlags := 1, code := none }
/-- java/lang/Object -/
def k0 : Class := { plain "java/lang/Object" none with
  accessFlags := 33
  interfaces := #[]
  cf := some (fileOf pool0 8 #[] #[{ accessFlags := 1, nameIndex := 5, descriptorIndex := 6, attributes := #[] }] 33 0 #[] #[])
  fields := #[]
  methods := #[k0m0]
  instanceTypes := #[]
  staticTypes := #[]
  resolved := Array.replicate 124 none
  statics := none }

def pool1 : Array CpInfo := pool [(2, .class_ 4), (1, u "java/lang/Object"), (0, u "<init>"), (0, u "()V"), (0, .integer 2147483647), (0, .methodref 9 10), (0, .class_ 11), (0, .nameAndType 12 13), (0, u "com/example/rhoquery/rhoquery/PathKindOfPinLaw"), (0, u "turn"), (0, u "(ZII)I"), (0, .fieldref 15 16), (0, .class_ 17), (0, .nameAndType 18 19), (0, u "com/example/rhoquery/rhoquery/PathKind"), (0, u "PATH"), (0, u "Lcom/example/rhoquery/rhoquery/PathKind;"), (0, .fieldref 15 21), (0, .nameAndType 22 19), (0, u "JOIN"), (0, .fieldref 15 24), (0, .nameAndType 25 19), (0, u "CONNECTION"), (0, .methodref 15 27), (0, .nameAndType 28 29), (0, u "of"), (0, u "([II)Lcom/example/rhoquery/rhoquery/PathKind;"), (3, u "law"), (0, u "(IIIIII)Z")] 4

def k1m0 : Method := { name := "<init>", desc := "()V", sig := { parameters := [], returnType := none }, accessFlags := 1, code := none }
def k1c1 : Code := { maxStack := 3, maxLocals := 3, code := method_2_code, exceptionTable := #[], attributes := #[] }
def k1m1 : Method := { name := "turn", desc := "(ZII)I", sig := { parameters := [.boolean, .int, .int], returnType := some .int }, accessFlags := 10, code := some k1c1 }
def k1c2 : Code := { maxStack := 4, maxLocals := 11, code := code, exceptionTable := #[], attributes := #[] }
def k1m2 : Method := { name := "law", desc := "(IIIIII)Z", sig := { parameters := [.int, .int, .int, .int, .int, .int], returnType := some .boolean }, accessFlags := 9, code := some k1c2 }
/-- com/example/rhoquery/rhoquery/PathKindOfPinLaw -/
def k1 : Class := { plain "com/example/rhoquery/rhoquery/PathKindOfPinLaw" (some 0) with
  accessFlags := 49
  interfaces := #[]
  cf := some (fileOf pool1 9 #[] #[{ accessFlags := 1, nameIndex := 5, descriptorIndex := 6, attributes := #[] }, { accessFlags := 10, nameIndex := 12, descriptorIndex := 13, attributes := #[] }, { accessFlags := 9, nameIndex := 33, descriptorIndex := 34, attributes := #[] }] 49 2 #[] #[])
  fields := #[]
  methods := #[k1m0, k1m1, k1m2]
  instanceTypes := #[]
  staticTypes := #[]
  resolved := Array.replicate 39 none
  statics := none }

def pool2 : Array CpInfo := pool [(1, .class_ 2), (0, u "java/lang/constant/Constable"), (0, .class_ 4), (0, u "java/lang/Object")] 6

/-- java/lang/constant/Constable -/
def k2 : Class := { plain "java/lang/constant/Constable" (some 0) with
  accessFlags := 1537
  interfaces := #[]
  cf := some (fileOf pool2 1 #[] #[] 1537 3 #[] #[])
  fields := #[]
  methods := #[]
  instanceTypes := #[]
  staticTypes := #[]
  resolved := Array.replicate 11 none
  statics := none }

def pool3 : Array CpInfo := pool [(1, .class_ 2), (0, u "java/lang/Comparable"), (0, .class_ 4), (0, u "java/lang/Object")] 7

/-- java/lang/Comparable -/
def k3 : Class := { plain "java/lang/Comparable" (some 0) with
  accessFlags := 1537
  interfaces := #[]
  cf := some (fileOf pool3 1 #[] #[] 1537 3 #[] #[])
  fields := #[]
  methods := #[]
  instanceTypes := #[]
  staticTypes := #[]
  resolved := Array.replicate 12 none
  statics := none }

def pool4 : Array CpInfo := pool [(1, .class_ 2), (0, u "java/io/Serializable"), (0, .class_ 4), (0, u "java/lang/Object")] 2

/-- java/io/Serializable -/
def k4 : Class := { plain "java/io/Serializable" (some 0) with
  accessFlags := 1537
  interfaces := #[]
  cf := some (fileOf pool4 1 #[] #[] 1537 3 #[] #[])
  fields := #[]
  methods := #[]
  instanceTypes := #[]
  staticTypes := #[]
  resolved := Array.replicate 7 none
  statics := none }

def pool5 : Array CpInfo := pool [(2, .class_ 4), (1, u "java/lang/Enum"), (0, u "name"), (0, u "Ljava/lang/String;"), (2, u "ordinal"), (0, u "I"), (1, .class_ 14), (1, u "java/lang/Object"), (4, u "hash"), (86, .class_ 108), (1, u "java/lang/Enum$EnumDesc"), (2, .class_ 112), (0, u "java/lang/constant/Constable"), (0, .class_ 114), (0, u "java/lang/Comparable"), (0, .class_ 116), (0, u "java/io/Serializable")] 87

/-- java/lang/Enum -/
def k5 : Class := { plain "java/lang/Enum" (some 0) with
  accessFlags := 1057
  interfaces := #[2, 3, 4]
  cf := some (fileOf pool5 2 #[.nestMembers #[106]] #[] 1057 12 #[111, 113, 115] #[{ accessFlags := 18, nameIndex := 5, descriptorIndex := 6, attributes := #[] }, { accessFlags := 18, nameIndex := 9, descriptorIndex := 10, attributes := #[] }, { accessFlags := 2, nameIndex := 19, descriptorIndex := 10, attributes := #[] }])
  fields := #[{ name := "name", type := (.object "java/lang/String"), accessFlags := 18, slot := 0, constantValue := 0 }, { name := "ordinal", type := .int, accessFlags := 18, slot := 1, constantValue := 0 }, { name := "hash", type := .int, accessFlags := 2, slot := 2, constantValue := 0 }]
  methods := #[]
  instanceTypes := #[(.object "java/lang/String"), .int, .int]
  staticTypes := #[]
  resolved := Array.replicate 204 none
  statics := none }

def pool6 : Array CpInfo := pool [(1, .class_ 2), (0, u "com/example/rhoquery/rhoquery/PathKind"), (0, .fieldref 1 4), (0, .nameAndType 5 6), (0, u "PATH"), (0, u "Lcom/example/rhoquery/rhoquery/PathKind;"), (0, .fieldref 1 8), (0, .nameAndType 9 6), (0, u "JOIN"), (0, .fieldref 1 11), (0, .nameAndType 12 6), (0, u "CONNECTION"), (2, u "$VALUES"), (0, u "[Lcom/example/rhoquery/rhoquery/PathKind;"), (6, .class_ 25), (1, u "java/lang/Enum"), (6, .methodref 1 33), (0, .nameAndType 34 35), (0, u "nextTurn"), (0, u "([III)I"), (2, u "of"), (0, u "([II)Lcom/example/rhoquery/rhoquery/PathKind;"), (8, .class_ 50), (1, u "com/example/rhoquery/rhoquery/InstanceGraph"), (18, .methodref 48 70), (0, .nameAndType 71 72), (0, u "isForward"), (0, u "(I)Z")] 23

def k6c0 : Code := { maxStack := 4, maxLocals := 3, code := prog_28_method_4_code, exceptionTable := #[], attributes := #[] }
def k6m0 : Method := { name := "of", desc := "([II)Lcom/example/rhoquery/rhoquery/PathKind;", sig := { parameters := [(.array .int), .int], returnType := some (.object "com/example/rhoquery/rhoquery/PathKind") }, accessFlags := 9, code := some k6c0 }
def k6c1 : Code := { maxStack := 4, maxLocals := 4, code := prog_28_method_7_code, exceptionTable := #[], attributes := #[] }
def k6m1 : Method := { name := "nextTurn", desc := "([III)I", sig := { parameters := [(.array .int), .int, .int], returnType := some .int }, accessFlags := 10, code := some k6c1 }
/-- com/example/rhoquery/rhoquery/PathKind -/
def k6 : Class := { plain "com/example/rhoquery/rhoquery/PathKind" (some 5) with
  accessFlags := 16433
  interfaces := #[]
  cf := some (fileOf pool6 1 #[] #[{ accessFlags := 9, nameIndex := 38, descriptorIndex := 39, attributes := #[] }, { accessFlags := 10, nameIndex := 34, descriptorIndex := 35, attributes := #[] }] 16433 23 #[] #[{ accessFlags := 16409, nameIndex := 5, descriptorIndex := 6, attributes := #[] }, { accessFlags := 16409, nameIndex := 9, descriptorIndex := 6, attributes := #[] }, { accessFlags := 16409, nameIndex := 12, descriptorIndex := 6, attributes := #[] }, { accessFlags := 4122, nameIndex := 15, descriptorIndex := 16, attributes := #[] }])
  fields := #[{ name := "PATH", type := (.object "com/example/rhoquery/rhoquery/PathKind"), accessFlags := 16409, slot := 0, constantValue := 0 }, { name := "JOIN", type := (.object "com/example/rhoquery/rhoquery/PathKind"), accessFlags := 16409, slot := 1, constantValue := 0 }, { name := "CONNECTION", type := (.object "com/example/rhoquery/rhoquery/PathKind"), accessFlags := 16409, slot := 2, constantValue := 0 }, { name := "$VALUES", type := (.array (.object "com/example/rhoquery/rhoquery/PathKind")), accessFlags := 4122, slot := 3, constantValue := 0 }]
  methods := #[k6m0, k6m1]
  instanceTypes := #[(.object "java/lang/String"), .int, .int]
  staticTypes := #[(.object "com/example/rhoquery/rhoquery/PathKind"), (.object "com/example/rhoquery/rhoquery/PathKind"), (.object "com/example/rhoquery/rhoquery/PathKind"), (.array (.object "com/example/rhoquery/rhoquery/PathKind"))]
  resolved := Array.replicate 96 none
  statics := some 0 }

def pool7 : Array CpInfo := pool [(1, .class_ 2), (0, u "com/example/rhoquery/rhoquery/InstanceGraph"), (1, .class_ 6), (1, u "java/lang/Object"), (4, u "blankCount"), (0, u "I"), (2, u "iris"), (0, u "Lcom/example/rhoquery/rhoquery/IriTable;"), (2, u "subjects"), (0, u "[I"), (2, u "predicates"), (2, u "objects"), (2, u "schema"), (0, u "[[J"), (6, u "stepStart"), (2, u "steps"), (12, u "isForward"), (0, u "(I)Z"), (75, .class_ 132), (1, u "com/example/rhoquery/rhoquery/InstanceGraph$SchemaPredicate"), (20, u "RDF"), (0, u "Ljava/lang/String;"), (1, u "RDFS"), (0, u "OWL"), (0, u "OWL_SAME_AS"), (25, .class_ 185), (0, u "com/example/rhoquery/rhoquery/InstanceGraph$Builder")] 31

def k7c0 : Code := { maxStack := 2, maxLocals := 1, code := prog_15_method_20_code, exceptionTable := #[], attributes := #[] }
def k7m0 : Method := { name := "isForward", desc := "(I)Z", sig := { parameters := [.int], returnType := some .boolean }, accessFlags := 9, code := some k7c0 }
/-- com/example/rhoquery/rhoquery/InstanceGraph -/
def k7 : Class := { plain "com/example/rhoquery/rhoquery/InstanceGraph" (some 0) with
  accessFlags := 49
  interfaces := #[]
  cf := some (fileOf pool7 1 #[.nestMembers #[184, 130]] #[{ accessFlags := 9, nameIndex := 53, descriptorIndex := 54, attributes := #[] }] 49 4 #[] #[{ accessFlags := 26, nameIndex := 153, descriptorIndex := 154, attributes := #[] }, { accessFlags := 26, nameIndex := 156, descriptorIndex := 154, attributes := #[] }, { accessFlags := 26, nameIndex := 157, descriptorIndex := 154, attributes := #[] }, { accessFlags := 26, nameIndex := 158, descriptorIndex := 154, attributes := #[] }, { accessFlags := 18, nameIndex := 11, descriptorIndex := 12, attributes := #[] }, { accessFlags := 18, nameIndex := 15, descriptorIndex := 16, attributes := #[] }, { accessFlags := 18, nameIndex := 19, descriptorIndex := 20, attributes := #[] }, { accessFlags := 18, nameIndex := 23, descriptorIndex := 20, attributes := #[] }, { accessFlags := 18, nameIndex := 26, descriptorIndex := 20, attributes := #[] }, { accessFlags := 18, nameIndex := 37, descriptorIndex := 20, attributes := #[] }, { accessFlags := 18, nameIndex := 40, descriptorIndex := 20, attributes := #[] }, { accessFlags := 18, nameIndex := 29, descriptorIndex := 30, attributes := #[] }])
  fields := #[{ name := "RDF", type := (.object "java/lang/String"), accessFlags := 26, slot := 0, constantValue := 0 }, { name := "RDFS", type := (.object "java/lang/String"), accessFlags := 26, slot := 1, constantValue := 0 }, { name := "OWL", type := (.object "java/lang/String"), accessFlags := 26, slot := 2, constantValue := 0 }, { name := "OWL_SAME_AS", type := (.object "java/lang/String"), accessFlags := 26, slot := 3, constantValue := 0 }, { name := "blankCount", type := .int, accessFlags := 18, slot := 0, constantValue := 0 }, { name := "iris", type := (.object "com/example/rhoquery/rhoquery/IriTable"), accessFlags := 18, slot := 1, constantValue := 0 }, { name := "subjects", type := (.array .int), accessFlags := 18, slot := 2, constantValue := 0 }, { name := "predicates", type := (.array .int), accessFlags := 18, slot := 3, constantValue := 0 }, { name := "objects", type := (.array .int), accessFlags := 18, slot := 4, constantValue := 0 }, { name := "stepStart", type := (.array .int), accessFlags := 18, slot := 5, constantValue := 0 }, { name := "steps", type := (.array .int), accessFlags := 18, slot := 6, constantValue := 0 }, { name := "schema", type := (.array (.array .long)), accessFlags := 18, slot := 7, constantValue := 0 }]
  methods := #[k7m0]
  instanceTypes := #[.int, (.object "com/example/rhoquery/rhoquery/IriTable"), (.array .int), (.array .int), (.array .int), (.array .int), (.array .int), (.array (.array .long))]
  staticTypes := #[(.object "java/lang/String"), (.object "java/lang/String"), (.object "java/lang/String"), (.object "java/lang/String")]
  resolved := Array.replicate 217 none
  statics := none }

def pool8 : Array CpInfo := pool [(1, u "java/lang/Cloneable"), (0, .class_ 1), (0, u "java/lang/Object"), (0, .class_ 3)] 3

/-- java/lang/Cloneable -/
def k8 : Class := { plain "java/lang/Cloneable" (some 0) with
  accessFlags := 1537
  interfaces := #[]
  cf := some (fileOf pool8 2 #[] #[] 1537 4 #[] #[])
  fields := #[]
  methods := #[]
  instanceTypes := #[]
  staticTypes := #[]
  resolved := Array.replicate 8 none
  statics := none }

/-- the primitive byte -/
def k9 : Class := { plain "byte" none with kind := .primitive 'B', accessFlags := 0x411 }
/-- [B -/
def k10 : Class := { plain "[B" (some 0) with kind := .array 9 .byte, interfaces := #[8, 4], accessFlags := 1041 }

/-- the primitive int -/
def k11 : Class := { plain "int" none with kind := .primitive 'I', accessFlags := 0x411 }
/-- [I -/
def k12 : Class := { plain "[I" (some 0) with kind := .array 11 .int, interfaces := #[8, 4], accessFlags := 1041 }

def heap : Heap := #[{ cls := 6, slots := #[.ref 1, .ref 2, .ref 3, .null], vm := .statics 6 },
  { cls := 6, slots := #[.null, .int 0, .int 0], vm := .none },
  { cls := 6, slots := #[.null, .int 1, .int 0], vm := .none },
  { cls := 6, slots := #[.null, .int 2, .int 0], vm := .none }]
def classes : Array Class := #[k0, k1, k2, k3, k4, k5, k6, k7, k8, k9, k10, k11, k12]
def interned : List (Array UInt16 × Addr) := []
def slotsUsed : Nat := 13
def theMethod : MethodId := ⟨1, 2⟩
def args0 : Array Value := #[.int 5, .int 7, .int 9, .int 11, .int 3, .int 2]
def aboutOver (below : List Frame) : State where
  vm := { classes := classes, interned := interned.toArray }
  heap := heap
  slotsUsed := slotsUsed
  threads := #[{ frames := .invoking theMethod args0 :: below }]
def below0 : List Frame := [.native { method := ⟨0, 0⟩, args := #[] }]
def about1 : State := aboutOver below0
def p0 : Program := .bare "" "" ""
def e0 : Env := launch0.env 0 0 0
theorem w_frames : about1.frames = Frame.invoking theMethod args0 :: below0 := rfl
set_option maxRecDepth 65536 in
theorem w_args : argsFit about1.vm theMethod args0 = true := by decide +kernel
set_option maxRecDepth 65536 in
theorem w_heap : heapFits about1 = true := by decide +kernel
set_option maxRecDepth 65536 in
theorem w_runnable : about1.curStatus? = some .runnable := by decide +kernel
set_option maxRecDepth 65536 in
theorem w_alone : about1.alone = true := by decide +kernel
set_option maxRecDepth 65536 in
theorem w_named : about1.methodNamed? x = some theMethod := by decide +kernel
set_option maxRecDepth 65536 in
theorem w_hears : about1.hears theMethod below0 = true := by decide +kernel
set_option maxRecDepth 65536 in
theorem w_ripe : about1.ripe theMethod args0 below0 = true := by decide +kernel
theorem w_running : about1.status = .running := rfl
set_option maxRecDepth 65536 in
theorem w_room : about1.hasRoom e0.platform room_1 = true :=
  launch0.hasRoom_least _ room_1 (by decide +kernel) (by decide +kernel) (by decide +kernel) (by decide +kernel) (by decide +kernel) (by decide +kernel)
theorem allAtoms_all (ts : List Jvm.Cond) (a : Array Jvm.Value) (st : Jvm.State) : (allAtoms ts).before a st = ts.all (fun c => c.before a st) := by
  induction ts with
  | nil => rfl
  | cons c t ih =>
    show (Jvm.Cond.and c (allAtoms t)).before a st = _
    rw [Jvm.Cond.before_and, ih, List.all_cons]
def words1 : List Jvm.Cond := Jvm.Cond.code x code maxLocals ret :: tables_1
/-- a 'code' word, met by the world's own term for the bytes: nothing is compared byte by byte -/
theorem code_word {y : MethodName} {bytes : ByteArray} {mx : Nat} {rt : Option FieldType} {a : Array Value} {s : State} {m : MethodId} {meth : Method} {c : Code} (h1 : s.methodNamed? y = some m) (h2 : s.vm.method? m = some meth) (h3 : meth.code = some c) (h4 : c.code = bytes)
    (h5 : (c.maxLocals == mx && c.exceptionTable.isEmpty && decide (c.maxStack ≤ mostOperands) && decide (meth.sig.returnType = rt) && !meth.locks && decide (parseMethodDescriptor y.desc = some meth.sig)) = true) : (Jvm.Cond.code y bytes mx rt).before a s = true := by
  simp only [Bool.and_eq_true, beq_iff_eq, Bool.not_eq_true', decide_eq_true_eq] at h5
  obtain ⟨⟨⟨⟨⟨g1, g2⟩, g3⟩, g4⟩, g5⟩, g6⟩ := h5
  simp [Cond.before, Cond.holds, Cond.value, h1, h2, h3, h4, g1, g2, g3, g4, g5, g6]
def isCode : Jvm.Cond → Bool
  | .code _ _ _ _ => true
  | _ => false
theorem all_split {L : List Jvm.Cond} {P : Jvm.Cond → Bool} (h1 : L.all (fun c => isCode c || P c) = true) (h2 : ∀ c ∈ L.filter isCode, P c = true) : L.all P = true := by
  refine List.all_eq_true.mpr fun c hc => ?_
  have h := List.all_eq_true.mp h1 c hc
  rcases Bool.eq_false_or_eq_true (isCode c) with hi | hi
  · exact h2 c (List.mem_filter.mpr ⟨hc, hi⟩)
  · simpa [hi] using h
set_option maxRecDepth 65536 in
theorem w_c0 : (Jvm.Cond.code x code maxLocals ret).before args0 about1 = true := code_word (m := ⟨1, 2⟩) (meth := k1m2) (c := k1c2) (by decide +kernel) rfl rfl rfl (by decide +kernel)
set_option maxRecDepth 65536 in
theorem w_c1 : (Jvm.Cond.code ({ cls := "com/example/rhoquery/rhoquery/PathKindOfPinLaw", name := "turn", desc := "(ZII)I" } : Jvm.MethodName) method_2_code (3 : Nat) (Option.some Jvm.ClassFile.FieldType.int)).before args0 about1 = true := code_word (m := ⟨1, 1⟩) (meth := k1m1) (c := k1c1) (by decide +kernel) rfl rfl rfl (by decide +kernel)
set_option maxRecDepth 65536 in
theorem w_c2 : (Jvm.Cond.code ({ cls := "com/example/rhoquery/rhoquery/PathKind", name := "of", desc := "([II)Lcom/example/rhoquery/rhoquery/PathKind;" } : Jvm.MethodName) prog_28_method_4_code (3 : Nat) (Option.some (Jvm.ClassFile.FieldType.object "com/example/rhoquery/rhoquery/PathKind"))).before args0 about1 = true := code_word (m := ⟨6, 0⟩) (meth := k6m0) (c := k6c0) (by decide +kernel) rfl rfl rfl (by decide +kernel)
set_option maxRecDepth 65536 in
theorem w_c3 : (Jvm.Cond.code ({ cls := "com/example/rhoquery/rhoquery/PathKind", name := "nextTurn", desc := "([III)I" } : Jvm.MethodName) prog_28_method_7_code (4 : Nat) (Option.some Jvm.ClassFile.FieldType.int)).before args0 about1 = true := code_word (m := ⟨6, 1⟩) (meth := k6m1) (c := k6c1) (by decide +kernel) rfl rfl rfl (by decide +kernel)
set_option maxRecDepth 65536 in
theorem w_c4 : (Jvm.Cond.code ({ cls := "com/example/rhoquery/rhoquery/InstanceGraph", name := "isForward", desc := "(I)Z" } : Jvm.MethodName) prog_15_method_20_code (1 : Nat) (Option.some Jvm.ClassFile.FieldType.boolean)).before args0 about1 = true := code_word (m := ⟨7, 0⟩) (meth := k7m0) (c := k7c0) (by decide +kernel) rfl rfl rfl (by decide +kernel)
def codes1 : List Jvm.Cond := [Jvm.Cond.code x code maxLocals ret, Jvm.Cond.code ({ cls := "com/example/rhoquery/rhoquery/PathKindOfPinLaw", name := "turn", desc := "(ZII)I" } : Jvm.MethodName) method_2_code (3 : Nat) (Option.some Jvm.ClassFile.FieldType.int), Jvm.Cond.code ({ cls := "com/example/rhoquery/rhoquery/PathKind", name := "of", desc := "([II)Lcom/example/rhoquery/rhoquery/PathKind;" } : Jvm.MethodName) prog_28_method_4_code (3 : Nat) (Option.some (Jvm.ClassFile.FieldType.object "com/example/rhoquery/rhoquery/PathKind")), Jvm.Cond.code ({ cls := "com/example/rhoquery/rhoquery/PathKind", name := "nextTurn", desc := "([III)I" } : Jvm.MethodName) prog_28_method_7_code (4 : Nat) (Option.some Jvm.ClassFile.FieldType.int), Jvm.Cond.code ({ cls := "com/example/rhoquery/rhoquery/InstanceGraph", name := "isForward", desc := "(I)Z" } : Jvm.MethodName) prog_15_method_20_code (1 : Nat) (Option.some Jvm.ClassFile.FieldType.boolean)]
set_option maxRecDepth 65536 in
theorem codes_eq : words1.filter isCode = codes1 := rfl
theorem w_codes : ∀ c ∈ words1.filter isCode, c.before args0 about1 = true := by
  rw [codes_eq]
  intro c hc
  simp only [codes1, List.mem_cons, List.not_mem_nil, or_false] at hc
  rcases hc with rfl | rfl | rfl | rfl | rfl
  · exact w_c0
  · exact w_c1
  · exact w_c2
  · exact w_c3
  · exact w_c4
set_option maxRecDepth 65536 in
theorem w_t1 : (words1.take 24).all (fun c => isCode c || c.before args0 about1) = true := by decide +kernel
set_option maxRecDepth 65536 in
theorem w_t2 : (words1.drop 24).all (fun c => isCode c || c.before args0 about1) = true := by decide +kernel
theorem w_tables : (allAtoms (Jvm.Cond.code x code maxLocals ret :: tables_1)).before args0 about1 = true := by
  rw [allAtoms_all]
  show words1.all (fun c => c.before args0 about1) = true
  refine all_split ?_ w_codes
  rw [← List.take_append_drop 24 words1, List.all_append, w_t1, w_t2]
  rfl
set_option maxRecDepth 65536 in
theorem w_case : (Jvm.Cond.and given_1 narrow_1).before args0 about1 = true := by decide +kernel
theorem w_applies : (headSpec (Jvm.Cond.code x code maxLocals ret :: tables_1) room_1).applies x e0.platform about1 = true :=
  (Spec.applies_iff w_frames).mpr ⟨w_running, w_runnable, w_alone, w_named, w_hears, w_ripe, w_room, w_tables⟩
theorem atStart : AtStart classFile x code maxLocals ret World_1 tables_1 room_1 Calls_1 rest_1 Pre_1 launch0 p0 e0 about1 theMethod args0 below0 :=
  ⟨lists_1, trivial, launch0.admits_env _ _ _, launch0.least_env, fairChoices_fair.cas, fairChoices_fair.clock, w_frames, w_args, w_heap, w_applies, trivial, trivial, w_case⟩
end start1
theorem witness_1 : WitnessClaimed_1 := ⟨start1.p0, start1.e0, start1.about1, start1.theMethod, start1.args0, start1.below0, start1.atStart⟩
end Jvm.Pilot.@@N@@
