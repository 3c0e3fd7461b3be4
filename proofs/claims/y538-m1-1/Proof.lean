import JvmDerived
import JvmDerived.Pilot.@@N@@Statement
import JvmDerived.Pilot.@@N@@Code
set_option linter.unusedVariables false
set_option linter.unusedSimpArgs false
@@BLOCK:NumsL.lean.txt@@
namespace Jvm.Pilot.@@N@@
open Jvm Jvm.ClassFile Sem Op Lib Jvm.Free Jvm.Stand Jvm.LawKit Jvm.RoadKit Bundle Jvm.Pilot.@@N@@.Jvm.D
/-! 1. OWN: a walk in continuation style: 'own_Goes': from this frame the run comes back with an outcome of which Q holds -/
def own_Goes (p : Program) (e : Env) (below : List Frame) (T : State) (F : JFrame) (Q : Outcome → State → Prop) : Prop := ∃ s₂ o, Steps p.tables e below (T.setTop F) s₂ ∧ s₂.status = .running ∧ Ended s₂ below o ∧ Q o s₂
def own_Ret (s : State) (K : Option Value → Heap → List Loc → Prop) (rc rs : Nat) (o : Outcome) (U' : State) : Prop := ∃ v L, o = .returned v ∧ K v U'.heap L ∧ FrameEnd s o U' L rc rs
def own_upd (f : Nat → Value) (k : Nat) (v : Value) : Nat → Value := fun i => if i = k then v else f i
/-- an array of n places at a; place j holds f j -/
def own_Arr (Z : State) (h : Heap) (a : Addr) (ty : FieldType) (n : Nat) (f : Nat → Value) : Prop := ∃ c : Cell, Arr Z h a c ty ∧ c.slots.size = n ∧ n < 2 ^ 31 ∧ ∀ j, j < n → c.slots[j]? = some (f j)
section Own
variable {p : Program} {l : Launch} {e : Env} {R : Room} {s : State} {m : MethodId} {args : Array Value} {below : List Frame} {meth : Method} {c : Code} {T : State} {locs : List Loc} {cells slots : Nat} {Z : State} {a0 : Array Value} {h h' : Heap} {Q : Outcome → State → Prop} {Ls Ls' : Array Slot} {st : List Value} {pc pc' : Nat}
theorem own_step {T' : State} {F F' : JFrame} (k : ∀ t, Steps p.tables e below (T'.setTop F') t → Steps p.tables e below (T.setTop F) t) (q : own_Goes p e below T' F' Q) : own_Goes p e below T F Q := by
  obtain ⟨s2, o, h1, h2⟩ := q
  exact ⟨s2, o, k _ h1, h2⟩
theorem own_body {y : MethodName} {bytes : ByteArray} {maxL : Nat} {rt : Option FieldType} {ws : List Jvm.Cond} {rm : Room} {as : Array Value} {h0 : Heap} {K : Option Value → Heap → List Loc → Prop} (hpl : plainFor y = true)
    (body : ∀ (p : Program) (e : Env) (s : State) (m : MethodId) (below : List Frame) (meth : Method) (c : Code) (s₁ : State), p.tables.exec = Jvm.exec → c.code = bytes → c.maxLocals = maxL → s.vm.findClass y.cls = some m.cls → meth.name = y.name → meth.sig.returnType = rt → meth.locks = false → Z.Warmed39 s.vm →
      Stand p l e rm s m as below meth c s₁ [] 0 0 → s₁.heap = h0 → own_Goes p e below s₁ (entryFrame m as maxL) (own_Ret s K rm.cells rm.slots)) :
    MetFree l y (head1 (Jvm.Cond.code y bytes maxL rt :: ws) rm) (fun a U => a = as ∧ Z.Warmed39 U.vm ∧ U.heap = h0) (fun _ _ _ _ _ => True) (fun _ U o U' => ∃ v L, o = .returned v ∧ K v U'.heap L ∧ FrameEnd U o U' L rm.cells rm.slots) := by
  refine MetFree.of_bodySF hpl hisR ?_
  intro p e s m args below meth c s₁ Bd hml0 hP hK
  obtain ⟨rfl, hZ, hh⟩ := hP
  exact body p e s m below meth c s₁ Bd.exec Bd.bytes hml0 (findClass_of_methodNamed Bd.named) (name_of_methodNamed Bd.named Bd.method).1 Bd.returns Bd.notSynchronized hZ (Stand.of_body Bd) (by rw [← hh, Bd.state]; rfl)
theorem own_iload (X : Stand p l e R s m args below meth c T locs cells slots) (hx : p.tables.exec = Jvm.exec) {k : Nat} {v : Int32} (hp : pc + 2 = pc') (hd : decode c.code pc = .ok (.iload k, 2)) (hl : Ls[k]? = some (.val (.int v))) (k : own_Goes p e below T (mkF m pc' Ls (.int v :: st)) Q) : own_Goes p e below T (mkF m pc Ls st) Q := by
  subst hp; exact own_step (fun _ q => XS.iload X.here hx rfl hd hl q) k
theorem own_iloadN (X : Stand p l e R s m args below meth c T locs cells slots) (hx : p.tables.exec = Jvm.exec) {k : Fin 4} {v : Int32} (hp : pc + 1 = pc') (hd : decode c.code pc = .ok (.iload_n k, 1)) (hl : Ls[k.val]? = some (.val (.int v))) (k : own_Goes p e below T (mkF m pc' Ls (.int v :: st)) Q) : own_Goes p e below T (mkF m pc Ls st) Q := by
  subst hp; exact own_step (fun _ q => XS.iloadN X.here hx rfl hd hl q) k
theorem own_istore (X : Stand p l e R s m args below meth c T locs cells slots) (hx : p.tables.exec = Jvm.exec) {k : Nat} {v : Int32} (hp : pc + 2 = pc') (hd : decode c.code pc = .ok (.istore k, 2)) (hl : storeLocals Ls k (.int v) = some Ls') (k : own_Goes p e below T (mkF m pc' Ls' st) Q) : own_Goes p e below T (mkF m pc Ls (.int v :: st)) Q := by
  subst hp; exact own_step (fun _ q => XS.istore X.here hx rfl hd rfl hl q) k
theorem own_istoreN (X : Stand p l e R s m args below meth c T locs cells slots) (hx : p.tables.exec = Jvm.exec) {k : Fin 4} {v : Int32} (hp : pc + 1 = pc') (hd : decode c.code pc = .ok (.istore_n k, 1)) (hl : storeLocals Ls k.val (.int v) = some Ls') (k : own_Goes p e below T (mkF m pc' Ls' st) Q) : own_Goes p e below T (mkF m pc Ls (.int v :: st)) Q := by
  subst hp; exact own_step (fun _ q => XS.istoreN X.here hx rfl hd rfl hl q) k
theorem own_lload (X : Stand p l e R s m args below meth c T locs cells slots) (hx : p.tables.exec = Jvm.exec) {k : Nat} {v : Int64} (hp : pc + 2 = pc') (hd : decode c.code pc = .ok (.lload k, 2)) (hl : Ls[k]? = some (.val (.long v))) (k : own_Goes p e below T (mkF m pc' Ls (.long v :: st)) Q) : own_Goes p e below T (mkF m pc Ls st) Q := by
  subst hp; exact own_step (fun _ q => XT.lload X.here hx rfl hd hl q) k
theorem own_lloadN (X : Stand p l e R s m args below meth c T locs cells slots) (hx : p.tables.exec = Jvm.exec) {k : Fin 4} {v : Int64} (hp : pc + 1 = pc') (hd : decode c.code pc = .ok (.lload_n k, 1)) (hl : Ls[k.val]? = some (.val (.long v))) (k : own_Goes p e below T (mkF m pc' Ls (.long v :: st)) Q) : own_Goes p e below T (mkF m pc Ls st) Q := by
  subst hp; exact own_step (fun _ q => XT.lloadN X.here hx rfl hd hl q) k
theorem own_lstore (X : Stand p l e R s m args below meth c T locs cells slots) (hx : p.tables.exec = Jvm.exec) {k : Nat} {v : Int64} (hp : pc + 2 = pc') (hd : decode c.code pc = .ok (.lstore k, 2)) (hl : storeLocals Ls k (.long v) = some Ls') (k : own_Goes p e below T (mkF m pc' Ls' st) Q) : own_Goes p e below T (mkF m pc Ls (.long v :: st)) Q := by
  subst hp; exact own_step (fun _ q => XT.lstore X.here hx rfl hd rfl hl q) k
theorem own_lstoreN (X : Stand p l e R s m args below meth c T locs cells slots) (hx : p.tables.exec = Jvm.exec) {k : Fin 4} {v : Int64} (hp : pc + 1 = pc') (hd : decode c.code pc = .ok (.lstore_n k, 1)) (hl : storeLocals Ls k.val (.long v) = some Ls') (k : own_Goes p e below T (mkF m pc' Ls' st) Q) : own_Goes p e below T (mkF m pc Ls (.long v :: st)) Q := by
  subst hp; exact own_step (fun _ q => XT.lstoreN X.here hx rfl hd rfl hl q) k
theorem own_aload (X : Stand p l e R s m args below meth c T locs cells slots) (hx : p.tables.exec = Jvm.exec) {k : Nat} {v : Value} (hp : pc + 2 = pc') (hd : decode c.code pc = .ok (.aload k, 2)) (hl : Ls[k]? = some (.val v)) (hv : v.isRef = true) (k : own_Goes p e below T (mkF m pc' Ls (v :: st)) Q) : own_Goes p e below T (mkF m pc Ls st) Q := by
  subst hp; exact own_step (fun _ q => XS.aload X.here hx rfl hd hl hv q) k
theorem own_aloadN (X : Stand p l e R s m args below meth c T locs cells slots) (hx : p.tables.exec = Jvm.exec) {k : Fin 4} {v : Value} (hp : pc + 1 = pc') (hd : decode c.code pc = .ok (.aload_n k, 1)) (hl : Ls[k.val]? = some (.val v)) (hv : v.isRef = true) (k : own_Goes p e below T (mkF m pc' Ls (v :: st)) Q) : own_Goes p e below T (mkF m pc Ls st) Q := by
  subst hp; exact own_step (fun _ q => XS.aloadN X.here hx rfl hd hl hv q) k
theorem own_astore (X : Stand p l e R s m args below meth c T locs cells slots) (hx : p.tables.exec = Jvm.exec) {k : Nat} {v : Value} (hp : pc + 2 = pc') (hd : decode c.code pc = .ok (.astore k, 2)) (hv : v.isRef = true) (hl : storeLocals Ls k v = some Ls') (k : own_Goes p e below T (mkF m pc' Ls' st) Q) : own_Goes p e below T (mkF m pc Ls (v :: st)) Q := by
  subst hp; exact own_step (fun _ q => XS.astore X.here hx rfl hd rfl hv hl q) k
theorem own_astoreN (X : Stand p l e R s m args below meth c T locs cells slots) (hx : p.tables.exec = Jvm.exec) {k : Fin 4} {v : Value} (hp : pc + 1 = pc') (hd : decode c.code pc = .ok (.astore_n k, 1)) (hv : v.isRef = true) (hl : storeLocals Ls k.val v = some Ls') (k : own_Goes p e below T (mkF m pc' Ls' st) Q) : own_Goes p e below T (mkF m pc Ls (v :: st)) Q := by
  subst hp; exact own_step (fun _ q => XS.astoreN X.here hx rfl hd rfl hv hl q) k
theorem own_iconst (X : Stand p l e R s m args below meth c T locs cells slots) (hx : p.tables.exec = Jvm.exec) {i : Int} {v : Int32} (hp : pc + 1 = pc') (hd : decode c.code pc = .ok (.iconst i, 1)) (hv : Int32.ofInt i = v) (k : own_Goes p e below T (mkF m pc' Ls (.int v :: st)) Q) : own_Goes p e below T (mkF m pc Ls st) Q := by
  subst hp; subst hv; exact own_step (fun _ q => XS.iconst X.here hx rfl hd  q) k
theorem own_bipush (X : Stand p l e R s m args below meth c T locs cells slots) (hx : p.tables.exec = Jvm.exec) {i : Int} {v : Int32} (hp : pc + 2 = pc') (hd : decode c.code pc = .ok (.bipush i, 2)) (hv : (Int8.ofInt i).toInt32 = v) (k : own_Goes p e below T (mkF m pc' Ls (.int v :: st)) Q) : own_Goes p e below T (mkF m pc Ls st) Q := by
  subst hp; subst hv; exact own_step (fun _ q => XS.bipush X.here hx rfl hd  q) k
theorem own_sipush (X : Stand p l e R s m args below meth c T locs cells slots) (hx : p.tables.exec = Jvm.exec) {i : Int} {v : Int32} (hp : pc + 3 = pc') (hd : decode c.code pc = .ok (.sipush i, 3)) (hv : (Int16.ofInt i).toInt32 = v) (k : own_Goes p e below T (mkF m pc' Ls (.int v :: st)) Q) : own_Goes p e below T (mkF m pc Ls st) Q := by
  subst hp; subst hv; exact own_step (fun _ q => XS.sipush X.here hx rfl hd  q) k
theorem own_lconst (X : Stand p l e R s m args below meth c T locs cells slots) (hx : p.tables.exec = Jvm.exec) {i : Fin 2} {v : Int64} (hp : pc + 1 = pc') (hd : decode c.code pc = .ok (.lconst i, 1)) (hv : Int64.ofNat i = v) (k : own_Goes p e below T (mkF m pc' Ls (.long v :: st)) Q) : own_Goes p e below T (mkF m pc Ls st) Q := by
  subst hp; subst hv; exact own_step (fun _ q => XT.lconst X.here hx rfl hd  q) k
theorem own_anull (X : Stand p l e R s m args below meth c T locs cells slots) (hx : p.tables.exec = Jvm.exec)  (hp : pc + 1 = pc') (hd : decode c.code pc = .ok (.aconst_null, 1))  (k : own_Goes p e below T (mkF m pc' Ls (.null :: st)) Q) : own_Goes p e below T (mkF m pc Ls st) Q := by
  subst hp; exact own_step (fun _ q => XS.aconstNull X.here hx rfl hd  q) k
theorem own_iadd (X : Stand p l e R s m args below meth c T locs cells slots) (hx : p.tables.exec = Jvm.exec) {x y v : Int32} (hp : pc + 1 = pc') (hd : decode c.code pc = .ok (.iadd, 1)) (hv : x + y = v) (k : own_Goes p e below T (mkF m pc' Ls (.int v :: st)) Q) : own_Goes p e below T (mkF m pc Ls (.int y :: .int x :: st)) Q := by
  subst hp; subst hv; exact own_step (fun _ q => XS.iadd X.here hx rfl hd rfl q) k
theorem own_isub (X : Stand p l e R s m args below meth c T locs cells slots) (hx : p.tables.exec = Jvm.exec) {x y v : Int32} (hp : pc + 1 = pc') (hd : decode c.code pc = .ok (.isub, 1)) (hv : x - y = v) (k : own_Goes p e below T (mkF m pc' Ls (.int v :: st)) Q) : own_Goes p e below T (mkF m pc Ls (.int y :: .int x :: st)) Q := by
  subst hp; subst hv; exact own_step (fun _ q => XS.isub X.here hx rfl hd rfl q) k
theorem own_imul (X : Stand p l e R s m args below meth c T locs cells slots) (hx : p.tables.exec = Jvm.exec) {x y v : Int32} (hp : pc + 1 = pc') (hd : decode c.code pc = .ok (.imul, 1)) (hv : x * y = v) (k : own_Goes p e below T (mkF m pc' Ls (.int v :: st)) Q) : own_Goes p e below T (mkF m pc Ls (.int y :: .int x :: st)) Q := by
  subst hp; subst hv; exact own_step (fun _ q => XS.imul X.here hx rfl hd rfl q) k
theorem own_iand (X : Stand p l e R s m args below meth c T locs cells slots) (hx : p.tables.exec = Jvm.exec) {x y v : Int32} (hp : pc + 1 = pc') (hd : decode c.code pc = .ok (.iand, 1)) (hv : x &&& y = v) (k : own_Goes p e below T (mkF m pc' Ls (.int v :: st)) Q) : own_Goes p e below T (mkF m pc Ls (.int y :: .int x :: st)) Q := by
  subst hp; subst hv; exact own_step (fun _ q => XS.iand X.here hx rfl hd rfl q) k
theorem own_ior (X : Stand p l e R s m args below meth c T locs cells slots) (hx : p.tables.exec = Jvm.exec) {x y v : Int32} (hp : pc + 1 = pc') (hd : decode c.code pc = .ok (.ior, 1)) (hv : x ||| y = v) (k : own_Goes p e below T (mkF m pc' Ls (.int v :: st)) Q) : own_Goes p e below T (mkF m pc Ls (.int y :: .int x :: st)) Q := by
  subst hp; subst hv; exact own_step (fun _ q => XT.ior X.here hx rfl hd rfl q) k
theorem own_ixor (X : Stand p l e R s m args below meth c T locs cells slots) (hx : p.tables.exec = Jvm.exec) {x y v : Int32} (hp : pc + 1 = pc') (hd : decode c.code pc = .ok (.ixor, 1)) (hv : x ^^^ y = v) (k : own_Goes p e below T (mkF m pc' Ls (.int v :: st)) Q) : own_Goes p e below T (mkF m pc Ls (.int y :: .int x :: st)) Q := by
  subst hp; subst hv; exact own_step (fun _ q => XT.ixor X.here hx rfl hd rfl q) k
theorem own_ishl (X : Stand p l e R s m args below meth c T locs cells slots) (hx : p.tables.exec = Jvm.exec) {x y v : Int32} (hp : pc + 1 = pc') (hd : decode c.code pc = .ok (.ishl, 1)) (hv : x <<< (y &&& 31) = v) (k : own_Goes p e below T (mkF m pc' Ls (.int v :: st)) Q) : own_Goes p e below T (mkF m pc Ls (.int y :: .int x :: st)) Q := by
  subst hp; subst hv; exact own_step (fun _ q => XT.ishl X.here hx rfl hd rfl q) k
theorem own_ishr (X : Stand p l e R s m args below meth c T locs cells slots) (hx : p.tables.exec = Jvm.exec) {x y v : Int32} (hp : pc + 1 = pc') (hd : decode c.code pc = .ok (.ishr, 1)) (hv : x >>> (y &&& 31) = v) (k : own_Goes p e below T (mkF m pc' Ls (.int v :: st)) Q) : own_Goes p e below T (mkF m pc Ls (.int y :: .int x :: st)) Q := by
  subst hp; subst hv; exact own_step (fun _ q => XT.ishr X.here hx rfl hd rfl q) k
theorem own_iushr (X : Stand p l e R s m args below meth c T locs cells slots) (hx : p.tables.exec = Jvm.exec) {x y v : Int32} (hp : pc + 1 = pc') (hd : decode c.code pc = .ok (.iushr, 1)) (hv : XT.ushr x y = v) (k : own_Goes p e below T (mkF m pc' Ls (.int v :: st)) Q) : own_Goes p e below T (mkF m pc Ls (.int y :: .int x :: st)) Q := by
  subst hp; subst hv; exact own_step (fun _ q => XT.iushr X.here hx rfl hd rfl q) k
theorem own_idiv (X : Stand p l e R s m args below meth c T locs cells slots) (hx : p.tables.exec = Jvm.exec) {x y v : Int32} (hp : pc + 1 = pc') (hd : decode c.code pc = .ok (.idiv, 1)) (hy : y ≠ 0) (hv : x / y = v) (k : own_Goes p e below T (mkF m pc' Ls (.int v :: st)) Q) : own_Goes p e below T (mkF m pc Ls (.int y :: .int x :: st)) Q := by
  subst hp; subst hv; exact own_step (fun _ q => XS.idiv X.here hx rfl hd rfl hy q) k
theorem own_irem (X : Stand p l e R s m args below meth c T locs cells slots) (hx : p.tables.exec = Jvm.exec) {x y v : Int32} (hp : pc + 1 = pc') (hd : decode c.code pc = .ok (.irem, 1)) (hy : y ≠ 0) (hv : x % y = v) (k : own_Goes p e below T (mkF m pc' Ls (.int v :: st)) Q) : own_Goes p e below T (mkF m pc Ls (.int y :: .int x :: st)) Q := by
  subst hp; subst hv; exact own_step (fun _ q => iremM X hx rfl hd rfl hy q) k
theorem own_ladd (X : Stand p l e R s m args below meth c T locs cells slots) (hx : p.tables.exec = Jvm.exec) {x y v : Int64} (hp : pc + 1 = pc') (hd : decode c.code pc = .ok (.ladd, 1)) (hv : x + y = v) (k : own_Goes p e below T (mkF m pc' Ls (.long v :: st)) Q) : own_Goes p e below T (mkF m pc Ls (.long y :: .long x :: st)) Q := by
  subst hp; subst hv; exact own_step (fun _ q => XT.ladd X.here hx rfl hd rfl q) k
theorem own_lsub (X : Stand p l e R s m args below meth c T locs cells slots) (hx : p.tables.exec = Jvm.exec) {x y v : Int64} (hp : pc + 1 = pc') (hd : decode c.code pc = .ok (.lsub, 1)) (hv : x - y = v) (k : own_Goes p e below T (mkF m pc' Ls (.long v :: st)) Q) : own_Goes p e below T (mkF m pc Ls (.long y :: .long x :: st)) Q := by
  subst hp; subst hv; exact own_step (fun _ q => XT.lsub X.here hx rfl hd rfl q) k
theorem own_lmul (X : Stand p l e R s m args below meth c T locs cells slots) (hx : p.tables.exec = Jvm.exec) {x y v : Int64} (hp : pc + 1 = pc') (hd : decode c.code pc = .ok (.lmul, 1)) (hv : x * y = v) (k : own_Goes p e below T (mkF m pc' Ls (.long v :: st)) Q) : own_Goes p e below T (mkF m pc Ls (.long y :: .long x :: st)) Q := by
  subst hp; subst hv; exact own_step (fun _ q => XT.lmul X.here hx rfl hd rfl q) k
theorem own_land (X : Stand p l e R s m args below meth c T locs cells slots) (hx : p.tables.exec = Jvm.exec) {x y v : Int64} (hp : pc + 1 = pc') (hd : decode c.code pc = .ok (.land, 1)) (hv : x &&& y = v) (k : own_Goes p e below T (mkF m pc' Ls (.long v :: st)) Q) : own_Goes p e below T (mkF m pc Ls (.long y :: .long x :: st)) Q := by
  subst hp; subst hv; exact own_step (fun _ q => XT.land X.here hx rfl hd rfl q) k
theorem own_lor (X : Stand p l e R s m args below meth c T locs cells slots) (hx : p.tables.exec = Jvm.exec) {x y v : Int64} (hp : pc + 1 = pc') (hd : decode c.code pc = .ok (.lor, 1)) (hv : x ||| y = v) (k : own_Goes p e below T (mkF m pc' Ls (.long v :: st)) Q) : own_Goes p e below T (mkF m pc Ls (.long y :: .long x :: st)) Q := by
  subst hp; subst hv; exact own_step (fun _ q => XT.lor X.here hx rfl hd rfl q) k
theorem own_lxor (X : Stand p l e R s m args below meth c T locs cells slots) (hx : p.tables.exec = Jvm.exec) {x y v : Int64} (hp : pc + 1 = pc') (hd : decode c.code pc = .ok (.lxor, 1)) (hv : x ^^^ y = v) (k : own_Goes p e below T (mkF m pc' Ls (.long v :: st)) Q) : own_Goes p e below T (mkF m pc Ls (.long y :: .long x :: st)) Q := by
  subst hp; subst hv; exact own_step (fun _ q => XT.lxor X.here hx rfl hd rfl q) k
theorem own_ldiv (X : Stand p l e R s m args below meth c T locs cells slots) (hx : p.tables.exec = Jvm.exec) {x y v : Int64} (hp : pc + 1 = pc') (hd : decode c.code pc = .ok (.ldiv, 1)) (hy : y ≠ 0) (hv : x / y = v) (k : own_Goes p e below T (mkF m pc' Ls (.long v :: st)) Q) : own_Goes p e below T (mkF m pc Ls (.long y :: .long x :: st)) Q := by
  subst hp; subst hv; exact own_step (fun _ q => XT.ldiv X.here hx rfl hd rfl hy q) k
theorem own_ineg (X : Stand p l e R s m args below meth c T locs cells slots) (hx : p.tables.exec = Jvm.exec) {x v : Int32} (hp : pc + 1 = pc') (hd : decode c.code pc = .ok (.ineg, 1)) (hv : -x = v) (k : own_Goes p e below T (mkF m pc' Ls (.int v :: st)) Q) : own_Goes p e below T (mkF m pc Ls (.int x :: st)) Q := by
  subst hp; subst hv; exact own_step (fun _ q => XS.ineg X.here hx rfl hd rfl q) k
theorem own_lneg (X : Stand p l e R s m args below meth c T locs cells slots) (hx : p.tables.exec = Jvm.exec) {x v : Int64} (hp : pc + 1 = pc') (hd : decode c.code pc = .ok (.lneg, 1)) (hv : -x = v) (k : own_Goes p e below T (mkF m pc' Ls (.long v :: st)) Q) : own_Goes p e below T (mkF m pc Ls (.long x :: st)) Q := by
  subst hp; subst hv; exact own_step (fun _ q => XT.lneg X.here hx rfl hd rfl q) k
theorem own_i2l (X : Stand p l e R s m args below meth c T locs cells slots) (hx : p.tables.exec = Jvm.exec) {x : Int32} {v : Int64} (hp : pc + 1 = pc') (hd : decode c.code pc = .ok (.i2l, 1)) (hv : x.toInt64 = v) (k : own_Goes p e below T (mkF m pc' Ls (.long v :: st)) Q) : own_Goes p e below T (mkF m pc Ls (.int x :: st)) Q := by
  subst hp; subst hv; exact own_step (fun _ q => XT.i2l X.here hx rfl hd rfl q) k
theorem own_l2i (X : Stand p l e R s m args below meth c T locs cells slots) (hx : p.tables.exec = Jvm.exec) {x : Int64} {v : Int32} (hp : pc + 1 = pc') (hd : decode c.code pc = .ok (.l2i, 1)) (hv : x.toInt32 = v) (k : own_Goes p e below T (mkF m pc' Ls (.int v :: st)) Q) : own_Goes p e below T (mkF m pc Ls (.long x :: st)) Q := by
  subst hp; subst hv; exact own_step (fun _ q => XT.l2i X.here hx rfl hd rfl q) k
theorem own_i2b (X : Stand p l e R s m args below meth c T locs cells slots) (hx : p.tables.exec = Jvm.exec) {x v : Int32} (hp : pc + 1 = pc') (hd : decode c.code pc = .ok (.i2b, 1)) (hv : x.toInt8.toInt32 = v) (k : own_Goes p e below T (mkF m pc' Ls (.int v :: st)) Q) : own_Goes p e below T (mkF m pc Ls (.int x :: st)) Q := by
  subst hp; subst hv; exact own_step (fun _ q => XT.i2b X.here hx rfl hd rfl q) k
theorem own_i2c (X : Stand p l e R s m args below meth c T locs cells slots) (hx : p.tables.exec = Jvm.exec) {x v : Int32} (hp : pc + 1 = pc') (hd : decode c.code pc = .ok (.i2c, 1)) (hv : x.toUInt32.toUInt16.toUInt32.toInt32 = v) (k : own_Goes p e below T (mkF m pc' Ls (.int v :: st)) Q) : own_Goes p e below T (mkF m pc Ls (.int x :: st)) Q := by
  subst hp; subst hv; exact own_step (fun _ q => XT.i2c X.here hx rfl hd rfl q) k
theorem own_i2s (X : Stand p l e R s m args below meth c T locs cells slots) (hx : p.tables.exec = Jvm.exec) {x v : Int32} (hp : pc + 1 = pc') (hd : decode c.code pc = .ok (.i2s, 1)) (hv : x.toInt16.toInt32 = v) (k : own_Goes p e below T (mkF m pc' Ls (.int v :: st)) Q) : own_Goes p e below T (mkF m pc Ls (.int x :: st)) Q := by
  subst hp; subst hv; exact own_step (fun _ q => XT.i2s X.here hx rfl hd rfl q) k
theorem own_lcmp (X : Stand p l e R s m args below meth c T locs cells slots) (hx : p.tables.exec = Jvm.exec) {x y : Int64} (hp : pc + 1 = pc') (hd : decode c.code pc = .ok (.lcmp, 1))  (k : own_Goes p e below T (mkF m pc' Ls (.int (XT.cmpL x y) :: st)) Q) : own_Goes p e below T (mkF m pc Ls (.long y :: .long x :: st)) Q := by
  subst hp; exact own_step (fun _ q => XT.lcmp X.here hx rfl hd rfl q) k
theorem own_iinc (X : Stand p l e R s m args below meth c T locs cells slots) (hx : p.tables.exec = Jvm.exec) {n : Nat} {i : Int} {x v : Int32} (hp : pc + 3 = pc') (hd : decode c.code pc = .ok (.iinc n i, 3)) (hl : Ls[n]? = some (.val (.int x))) (hv : x + Int32.ofInt i = v) (hl' : storeLocals Ls n (.int v) = some Ls') (k : own_Goes p e below T (mkF m pc' Ls' st) Q) : own_Goes p e below T (mkF m pc Ls st) Q := by
  subst hp; subst hv; exact own_step (fun _ q => XS.iinc X.here hx rfl hd hl hl' q) k
theorem own_dup (X : Stand p l e R s m args below meth c T locs cells slots) (hx : p.tables.exec = Jvm.exec) {x : Value} (hp : pc + 1 = pc') (hd : decode c.code pc = .ok (.dup, 1)) (hc : x.category = 1) (k : own_Goes p e below T (mkF m pc' Ls (x :: x :: st)) Q) : own_Goes p e below T (mkF m pc Ls (x :: st)) Q := by
  subst hp; exact own_step (fun _ q => XS.dup X.here hx rfl hd rfl hc q) k
theorem own_pop (X : Stand p l e R s m args below meth c T locs cells slots) (hx : p.tables.exec = Jvm.exec) {x : Value} (hp : pc + 1 = pc') (hd : decode c.code pc = .ok (.pop, 1)) (hc : x.category = 1) (k : own_Goes p e below T (mkF m pc' Ls st) Q) : own_Goes p e below T (mkF m pc Ls (x :: st)) Q := by
  subst hp; exact own_step (fun _ q => XT.pop X.here hx rfl hd rfl hc q) k
theorem own_goto (X : Stand p l e R s m args below meth c T locs cells slots) (hx : p.tables.exec = Jvm.exec) {o : Int} (hd : decode c.code pc = .ok (.goto o, 3)) (ho : 0 ≤ (pc : Int) + o) (hp : ((pc : Int) + o).toNat = pc') (k : own_Goes p e below T (mkF m pc' Ls st) Q) : own_Goes p e below T (mkF m pc Ls st) Q := own_step (fun _ q => XS.goto X.here hx rfl (pc0 := pc) (pc' := pc') rfl hd ho hp q) k
theorem own_ifT (X : Stand p l e R s m args below meth c T locs cells slots) (hx : p.tables.exec = Jvm.exec) {cd : ClassFile.Cond} {x : Int32} {o : Int} (hd : decode c.code pc = .ok (.ifCond cd o, 3)) (hc : ifCond.holds cd x = true) (ho : 0 ≤ (pc : Int) + o) (hp : ((pc : Int) + o).toNat = pc') (k : own_Goes p e below T (mkF m pc' Ls st) Q) : own_Goes p e below T (mkF m pc Ls (.int x :: st)) Q := own_step (fun _ q => XS.ifYes X.here hx rfl (pc0 := pc) (pc' := pc') rfl hd rfl hc ho hp q) k
theorem own_ifF (X : Stand p l e R s m args below meth c T locs cells slots) (hx : p.tables.exec = Jvm.exec) {cd : ClassFile.Cond} {x : Int32} {o : Int} (hp : pc + 3 = pc') (hd : decode c.code pc = .ok (.ifCond cd o, 3)) (hc : ifCond.holds cd x = false) (k : own_Goes p e below T (mkF m pc' Ls st) Q) : own_Goes p e below T (mkF m pc Ls (.int x :: st)) Q := by
  subst hp; exact own_step (fun _ q => XS.ifNo X.here hx rfl hd rfl hc q) k
theorem own_icmpT (X : Stand p l e R s m args below meth c T locs cells slots) (hx : p.tables.exec = Jvm.exec) {cd : ClassFile.Cond} {x y : Int32} {o : Int} (hd : decode c.code pc = .ok (.if_icmp cd o, 3)) (hc : if_icmp.holds cd x y = true) (ho : 0 ≤ (pc : Int) + o) (hp : ((pc : Int) + o).toNat = pc') (k : own_Goes p e below T (mkF m pc' Ls st) Q) : own_Goes p e below T (mkF m pc Ls (.int y :: .int x :: st)) Q := own_step (fun _ q => XS.icmpYes X.here hx rfl (pc0 := pc) (pc' := pc') rfl hd rfl hc ho hp q) k
theorem own_icmpF (X : Stand p l e R s m args below meth c T locs cells slots) (hx : p.tables.exec = Jvm.exec) {cd : ClassFile.Cond} {x y : Int32} {o : Int} (hp : pc + 3 = pc') (hd : decode c.code pc = .ok (.if_icmp cd o, 3)) (hc : if_icmp.holds cd x y = false) (k : own_Goes p e below T (mkF m pc' Ls st) Q) : own_Goes p e below T (mkF m pc Ls (.int y :: .int x :: st)) Q := by
  subst hp; exact own_step (fun _ q => XS.icmpNo X.here hx rfl hd rfl hc q) k
theorem own_acmpT (X : Stand p l e R s m args below meth c T locs cells slots) (hx : p.tables.exec = Jvm.exec) {cd : ClassFile.ACond} {x y : Value} {o : Int} (hd : decode c.code pc = .ok (.if_acmp cd o, 3)) (h1 : x.isRef = true) (h2 : y.isRef = true) (hc : XT.acmp cd x y = true) (ho : 0 ≤ (pc : Int) + o) (hp : ((pc : Int) + o).toNat = pc') (k : own_Goes p e below T (mkF m pc' Ls st) Q) : own_Goes p e below T (mkF m pc Ls (y :: x :: st)) Q := own_step (fun _ q => XT.acmpYes X.here hx rfl (pc0 := pc) (pc' := pc') rfl hd rfl h1 h2 hc ho hp q) k
theorem own_acmpF (X : Stand p l e R s m args below meth c T locs cells slots) (hx : p.tables.exec = Jvm.exec) {cd : ClassFile.ACond} {x y : Value} {o : Int} (hp : pc + 3 = pc') (hd : decode c.code pc = .ok (.if_acmp cd o, 3)) (h1 : x.isRef = true) (h2 : y.isRef = true) (hc : XT.acmp cd x y = false) (k : own_Goes p e below T (mkF m pc' Ls st) Q) : own_Goes p e below T (mkF m pc Ls (y :: x :: st)) Q := by
  subst hp; exact own_step (fun _ q => XT.acmpNo X.here hx rfl hd rfl h1 h2 hc q) k
theorem own_ldc (X : Stand p l e R s m args below meth c T locs cells slots) (hx : p.tables.exec = Jvm.exec) (hZ : Z.Warmed39 s.vm) {own : String} {index : Nat} {v : Int32} (hown : s.vm.findClass own = some m.cls) (w : (Jvm.Cond.constant own index v).before a0 Z = true) (hp : pc + 2 = pc') (hd : decode c.code pc = .ok (.ldc index, 2)) (k : own_Goes p e below T (mkF m pc' Ls (.int v :: st)) Q) : own_Goes p e below T (mkF m pc Ls st) Q := by
  subst hp; exact own_step (fun _ q => X.ldcI hx hown (mvT hZ w) rfl hd q) k
theorem own_ldc2_w (X : Stand p l e R s m args below meth c T locs cells slots) (hx : p.tables.exec = Jvm.exec) (hZ : Z.Warmed39 s.vm) {own : String} {index : Nat} {v : Int64} (hown : s.vm.findClass own = some m.cls) (w : (Jvm.Cond.constantLong own index v).before a0 Z = true) (hp : pc + 3 = pc') (hd : decode c.code pc = .ok (.ldc2_w index, 3)) (k : own_Goes p e below T (mkF m pc' Ls (.long v :: st)) Q) : own_Goes p e below T (mkF m pc Ls st) Q := by
  subst hp; exact own_step (fun _ q => X.ldc2J hx hown (mvT hZ w) rfl hd q) k
theorem own_retW (X : Stand p l e R s m args below meth c T locs cells slots) (hx : p.tables.exec = Jvm.exec) (hlk : meth.locks = false) {w : Option Value} (hv : meth.sig.returnType = none → w = none) {F : JFrame} (run : ∀ fs, (∀ (f : JFrame) (acts : List Action), f.method = m → f.locked = none → f.entered = [] → (doReturn e (T.setTop f) acts w).1 = T.setFrames fs) → Steps p.tables e below (T.setTop F) (T.setFrames fs)) {K : Option Value → Heap → List Loc → Prop} {rc rs : Nat} (hc : cells ≤ rc) (hs : slots ≤ rs) (hQ : K w T.heap locs) : own_Goes p e below T F (own_Ret s K rc rs) := by
  obtain ⟨fs, hr, hrun, hended, hW, hsame⟩ := X.leave (v := w) hv hlk
  exact ⟨_, _, run fs hr, hrun, hended, w, locs, rfl, hQ, ⟨_, rfl⟩, hW, hsame.mono hc hs⟩
theorem own_iret (X : Stand p l e R s m args below meth c T locs cells slots) (hx : p.tables.exec = Jvm.exec) (hlk : meth.locks = false) {z : Int32} (hret : meth.sig.returnType = some .int) (hd : decode c.code pc = .ok (.ireturn, 1)) {K : Option Value → Heap → List Loc → Prop} {rc rs : Nat} (hc : cells ≤ rc) (hs : slots ≤ rs) (hQ : K (some (.int z)) T.heap locs) : own_Goes p e below T (mkF m pc Ls (.int z :: st)) (own_Ret s K rc rs) :=
  own_retW X hx hlk (fun q => by rw [hret] at q; cases q) (fun fs hr => retOut X hx hret rfl (Or.inl ⟨rfl, Or.inl rfl, z, rfl⟩) hd hr) hc hs hQ
theorem own_zret (X : Stand p l e R s m args below meth c T locs cells slots) (hx : p.tables.exec = Jvm.exec) (hlk : meth.locks = false) {z : Int32} {t : FieldType} (hret : meth.sig.returnType = some t) (ht : t = .boolean ∨ t = .byte ∨ t = .char ∨ t = .short) (hd : decode c.code pc = .ok (.ireturn, 1)) {K : Option Value → Heap → List Loc → Prop} {rc rs : Nat} (hc : cells ≤ rc) (hs : slots ≤ rs) (hQ : K (some (.int (nar t z))) T.heap locs) : own_Goes p e below T (mkF m pc Ls (.int z :: st)) (own_Ret s K rc rs) :=
  own_retW X hx hlk (fun q => by rw [hret] at q; cases q) (fun fs hr => retN X hx hret ht hd hr) hc hs hQ
theorem own_lret (X : Stand p l e R s m args below meth c T locs cells slots) (hx : p.tables.exec = Jvm.exec) (hlk : meth.locks = false) {z : Int64} (hret : meth.sig.returnType = some .long) (hd : decode c.code pc = .ok (.lreturn, 1)) {K : Option Value → Heap → List Loc → Prop} {rc rs : Nat} (hc : cells ≤ rc) (hs : slots ≤ rs) (hQ : K (some (.long z)) T.heap locs) : own_Goes p e below T (mkF m pc Ls (.long z :: st)) (own_Ret s K rc rs) :=
  own_retW X hx hlk (fun q => by rw [hret] at q; cases q) (fun fs hr => retOut X hx hret rfl (Or.inr (Or.inl ⟨rfl, rfl, z, rfl⟩)) hd hr) hc hs hQ
theorem own_aret (X : Stand p l e R s m args below meth c T locs cells slots) (hx : p.tables.exec = Jvm.exec) (hlk : meth.locks = false) {z : Value} {t : FieldType} (hret : meth.sig.returnType = some t) (ht : t.isReference = true) (hz : z.isRef = true) (hd : decode c.code pc = .ok (.areturn, 1)) {K : Option Value → Heap → List Loc → Prop} {rc rs : Nat} (hc : cells ≤ rc) (hs : slots ≤ rs) (hQ : K (some z) T.heap locs) : own_Goes p e below T (mkF m pc Ls (z :: st)) (own_Ret s K rc rs) :=
  own_retW X hx hlk (fun q => by rw [hret] at q; cases q) (fun fs hr => retOut X hx hret (by cases t <;> simp [FieldType.isReference] at ht <;> cases z <;> simp [Value.isRef] at hz <;> rfl) (Or.inr (Or.inr (Or.inr (Or.inr ⟨rfl, ht, hz⟩)))) hd hr) hc hs hQ
theorem own_ret (X : Stand p l e R s m args below meth c T locs cells slots) (hx : p.tables.exec = Jvm.exec) (hlk : meth.locks = false) (hret : meth.sig.returnType = none) (hd : decode c.code pc = .ok (.return_, 1)) {K : Option Value → Heap → List Loc → Prop} {rc rs : Nat} (hc : cells ≤ rc) (hs : slots ≤ rs) (hQ : K none T.heap locs) : own_Goes p e below T (mkF m pc Ls []) (own_Ret s K rc rs) :=
  own_retW X hx hlk (fun _ => rfl) (fun fs hr => X.returnOut hx hret hd hr) hc hs hQ
theorem own_dload (X : Stand p l e R s m args below meth c T locs cells slots) (hx : p.tables.exec = Jvm.exec) {k : Nat} {v : UInt64} (hp : pc + 2 = pc') (hd : decode c.code pc = .ok (.dload k, 2)) (hl : Ls[k]? = some (.val (.double v))) (k : own_Goes p e below T (mkF m pc' Ls (.double v :: st)) Q) : own_Goes p e below T (mkF m pc Ls st) Q := by
  subst hp; exact own_step (fun _ q => XS.dload X.here hx rfl hd hl q) k
theorem own_dloadN (X : Stand p l e R s m args below meth c T locs cells slots) (hx : p.tables.exec = Jvm.exec) {k : Fin 4} {v : UInt64} (hp : pc + 1 = pc') (hd : decode c.code pc = .ok (.dload_n k, 1)) (hl : Ls[k.val]? = some (.val (.double v))) (k : own_Goes p e below T (mkF m pc' Ls (.double v :: st)) Q) : own_Goes p e below T (mkF m pc Ls st) Q := by
  subst hp; exact own_step (fun _ q => XS.dloadN X.here hx rfl hd hl q) k
theorem own_dstore (X : Stand p l e R s m args below meth c T locs cells slots) (hx : p.tables.exec = Jvm.exec) {k : Nat} {v : UInt64} (hp : pc + 2 = pc') (hd : decode c.code pc = .ok (.dstore k, 2)) (hl : storeLocals Ls k (.double v) = some Ls') (k : own_Goes p e below T (mkF m pc' Ls' st) Q) : own_Goes p e below T (mkF m pc Ls (.double v :: st)) Q := by
  subst hp; exact own_step (fun _ q => XS.dstore X.here hx rfl hd rfl hl q) k
theorem own_dstoreN (X : Stand p l e R s m args below meth c T locs cells slots) (hx : p.tables.exec = Jvm.exec) {k : Fin 4} {v : UInt64} (hp : pc + 1 = pc') (hd : decode c.code pc = .ok (.dstore_n k, 1)) (hl : storeLocals Ls k.val (.double v) = some Ls') (k : own_Goes p e below T (mkF m pc' Ls' st) Q) : own_Goes p e below T (mkF m pc Ls (.double v :: st)) Q := by
  subst hp; exact own_step (fun _ q => XS.dstoreN X.here hx rfl hd rfl hl q) k
theorem own_dconst0 (X : Stand p l e R s m args below meth c T locs cells slots) (hx : p.tables.exec = Jvm.exec) {v : UInt64} (hp : pc + 1 = pc') (hd : decode c.code pc = .ok (.dconst 0, 1)) (hv : FP.dconst0 = v) (k : own_Goes p e below T (mkF m pc' Ls (.double v :: st)) Q) : own_Goes p e below T (mkF m pc Ls st) Q := by
  subst hp; exact own_step (fun _ q => XS.dconst0 X.here hx rfl hd hv q) k
theorem own_dconst1 (X : Stand p l e R s m args below meth c T locs cells slots) (hx : p.tables.exec = Jvm.exec) {v : UInt64} (hp : pc + 1 = pc') (hd : decode c.code pc = .ok (.dconst 1, 1)) (hv : FP.dconst1 = v) (k : own_Goes p e below T (mkF m pc' Ls (.double v :: st)) Q) : own_Goes p e below T (mkF m pc Ls st) Q := by
  subst hp; exact own_step (fun _ q => XS.dconst1 X.here hx rfl hd hv q) k
theorem own_i2d (X : Stand p l e R s m args below meth c T locs cells slots) (hx : p.tables.exec = Jvm.exec) {x : Int32} {v : UInt64} (hp : pc + 1 = pc') (hd : decode c.code pc = .ok (.i2d, 1)) (hv : FP.i2d x = v) (k : own_Goes p e below T (mkF m pc' Ls (.double v :: st)) Q) : own_Goes p e below T (mkF m pc Ls (.int x :: st)) Q := by
  subst hp; exact own_step (fun _ q => XS.i2dS X.here hx rfl hd rfl hv q) k
theorem own_l2d (X : Stand p l e R s m args below meth c T locs cells slots) (hx : p.tables.exec = Jvm.exec) {x : Int64} {v : UInt64} (hp : pc + 1 = pc') (hd : decode c.code pc = .ok (.l2d, 1)) (hv : FP.l2d x = v) (k : own_Goes p e below T (mkF m pc' Ls (.double v :: st)) Q) : own_Goes p e below T (mkF m pc Ls (.long x :: st)) Q := by
  subst hp; exact own_step (fun _ q => XS.l2dS X.here hx rfl hd rfl hv q) k
theorem own_dneg (X : Stand p l e R s m args below meth c T locs cells slots) (hx : p.tables.exec = Jvm.exec) {x v : UInt64} (hp : pc + 1 = pc') (hd : decode c.code pc = .ok (.dneg, 1)) (hv : FP.dneg x = v) (k : own_Goes p e below T (mkF m pc' Ls (.double v :: st)) Q) : own_Goes p e below T (mkF m pc Ls (.double x :: st)) Q := by
  subst hp; exact own_step (fun _ q => XS.dnegS X.here hx rfl hd rfl hv q) k
theorem own_dcmp (X : Stand p l e R s m args below meth c T locs cells slots) (hx : p.tables.exec = Jvm.exec) {o : CmpOp} {x y : UInt64} {v : Int32} (hp : pc + 1 = pc') (hd : decode c.code pc = .ok (.dcmp o, 1)) (hv : cmpValue (FP.dcmp x y) o = v) (k : own_Goes p e below T (mkF m pc' Ls (.int v :: st)) Q) : own_Goes p e below T (mkF m pc Ls (.double y :: .double x :: st)) Q := by
  subst hp; exact own_step (fun _ q => XS.dcmpS X.here hx rfl hd rfl hv q) k
theorem own_dadd (X : Stand p l e R s m args below meth c T locs cells slots) (hx : p.tables.exec = Jvm.exec) {x y v : UInt64} (hp : pc + 1 = pc') (hd : decode c.code pc = .ok (.dadd, 1)) (hn : Jvm.Free.Fl.NoNaN64 (FP.dadd x y)) (hv : FP.dadd x y = v) (k : own_Goes p e below T (mkF m pc' Ls (.double v :: st)) Q) : own_Goes p e below T (mkF m pc Ls (.double y :: .double x :: st)) Q := by
  subst hp; exact own_step (fun _ q => XS.daddS X.here hx rfl hd rfl hn hv q) k
theorem own_dsub (X : Stand p l e R s m args below meth c T locs cells slots) (hx : p.tables.exec = Jvm.exec) {x y v : UInt64} (hp : pc + 1 = pc') (hd : decode c.code pc = .ok (.dsub, 1)) (hn : Jvm.Free.Fl.NoNaN64 (FP.dsub x y)) (hv : FP.dsub x y = v) (k : own_Goes p e below T (mkF m pc' Ls (.double v :: st)) Q) : own_Goes p e below T (mkF m pc Ls (.double y :: .double x :: st)) Q := by
  subst hp; exact own_step (fun _ q => XS.dsubS X.here hx rfl hd rfl hn hv q) k
theorem own_dmul (X : Stand p l e R s m args below meth c T locs cells slots) (hx : p.tables.exec = Jvm.exec) {x y v : UInt64} (hp : pc + 1 = pc') (hd : decode c.code pc = .ok (.dmul, 1)) (hn : Jvm.Free.Fl.NoNaN64 (FP.dmul x y)) (hv : FP.dmul x y = v) (k : own_Goes p e below T (mkF m pc' Ls (.double v :: st)) Q) : own_Goes p e below T (mkF m pc Ls (.double y :: .double x :: st)) Q := by
  subst hp; exact own_step (fun _ q => XS.dmulS X.here hx rfl hd rfl hn hv q) k
theorem own_ddiv (X : Stand p l e R s m args below meth c T locs cells slots) (hx : p.tables.exec = Jvm.exec) {x y v : UInt64} (hp : pc + 1 = pc') (hd : decode c.code pc = .ok (.ddiv, 1)) (hn : Jvm.Free.Fl.NoNaN64 (FP.ddiv x y)) (hv : FP.ddiv x y = v) (k : own_Goes p e below T (mkF m pc' Ls (.double v :: st)) Q) : own_Goes p e below T (mkF m pc Ls (.double y :: .double x :: st)) Q := by
  subst hp; exact own_step (fun _ q => XS.ddivS X.here hx rfl hd rfl hn hv q) k
theorem own_ldcD (X : Stand p l e R s m args below meth c T locs cells slots) (hx : p.tables.exec = Jvm.exec) (hZ : Z.Warmed39 s.vm) {own : String} {index : Nat} {v : UInt64} (hown : s.vm.findClass own = some m.cls) (w : (Jvm.Cond.constantDouble own index v).before a0 Z = true) (hp : pc + 3 = pc') (hd : decode c.code pc = .ok (.ldc2_w index, 3)) (k : own_Goes p e below T (mkF m pc' Ls (.double v :: st)) Q) : own_Goes p e below T (mkF m pc Ls st) Q := by
  subst hp; exact own_step (fun t q => X.ldc2DoubleC hx hown (mvT hZ w) (g := mkF m pc Ls st) rfl hd t q) k
theorem own_dret (X : Stand p l e R s m args below meth c T locs cells slots) (hx : p.tables.exec = Jvm.exec) (hlk : meth.locks = false) {z : UInt64} (hret : meth.sig.returnType = some .double) (hd : decode c.code pc = .ok (.dreturn, 1)) {K : Option Value → Heap → List Loc → Prop} {rc rs : Nat} (hc : cells ≤ rc) (hs : slots ≤ rs) (hQ : K (some (.double z)) T.heap locs) : own_Goes p e below T (mkF m pc Ls (.double z :: st)) (own_Ret s K rc rs) :=
  own_retW X hx hlk (fun q => by rw [hret] at q; cases q) (fun fs hr => retOut X hx hret rfl (Or.inr (Or.inr (Or.inl ⟨rfl, rfl, z, rfl⟩))) hd hr) hc hs hQ
theorem own_getF (X : Stand p l e R s m args below meth c T locs cells slots) (hx : p.tables.exec = Jvm.exec) (hZ : Z.Warmed39 s.vm) {own R0 O n d host : String} {index : Nat} (hown : s.vm.findClass own = some m.cls) (w : (Jvm.Cond.fieldLink own index R0 n d).before a0 Z = true ∨ (Jvm.Cond.fieldLinkNest own index R0 n d host).before a0 Z = true) (via : Via Z R0 O n d) (eT : T.heap = h) {a : Addr} {v : Value} (F : Fld Z h a O n d v) (hp : pc + 3 = pc') (hd : decode c.code pc = .ok (.getfield index, 3))
    (k : ∀ T', Stand p l e R s m args below meth c T' locs cells slots → T'.heap = h → own_Goes p e below T' (mkF m pc' Ls (v :: st)) Q) : own_Goes p e below T (mkF m pc Ls (.ref a :: st)) Q := by
  subst hp
  obtain ⟨T', X', e', stp⟩ := getF X hx hZ hown w via eT F (g := mkF m pc Ls (.ref a :: st)) rfl rfl hd
  exact own_step stp (k T' X' e')
theorem own_putF (X : Stand p l e R s m args below meth c T locs cells slots) (hx : p.tables.exec = Jvm.exec) (hZ : Z.Warmed39 s.vm) {own R0 O n d host C : String} {index kk : Nat} {ty : FieldType} (hown : s.vm.findClass own = some m.cls) (w : (Jvm.Cond.fieldLink own index R0 n d).before a0 Z = true ∨ (Jvm.Cond.fieldLinkNest own index R0 n d host).before a0 Z = true) (via : Via Z R0 O n d) (eT : T.heap = h) {a : Addr} {v old : Value} (F : Fld Z h a O n d old) (E : Exa Z h a C)
    (L : (Jvm.Cond.lays C O n d).before a0 Z = true ∨ ((Jvm.Cond.laysFinal C O n d).before a0 Z = true ∧ own = O ∧ meth.name = "<init>")) (wi : (Jvm.Cond.instantiable C kk).before a0 Z = true) (hty : parseFieldDescriptor d = some ty) (hn : narrow ty v = v) (hf : fits ty v = true) (hp : pc + 3 = pc') (hd : decode c.code pc = .ok (.putfield index, 3))
    (k : ∀ T' h', Stand p l e R s m args below meth c T' (locs ++ [⟨a, Jvm.RoadKit.slotOf Z O n d⟩]) cells slots → T'.heap = h' → Wr h h' a (Jvm.RoadKit.slotOf Z O n d) v → own_Goes p e below T' (mkF m pc' Ls st) Q) : own_Goes p e below T (mkF m pc Ls (v :: .ref a :: st)) Q := by
  subst hp
  obtain ⟨T', h', X', e', W', stp⟩ := putF X hx hZ hown w via eT F E L wi hty hn hf (g := mkF m pc Ls (v :: .ref a :: st)) rfl rfl hd
  exact own_step stp (k T' h' X' e' W')
theorem own_getS (X : Stand p l e R s m args below meth c T locs cells slots) (hx : p.tables.exec = Jvm.exec) (hZ : Z.Warmed39 s.vm) {own R0 O n d : String} {index : Nat} (hown : s.vm.findClass own = some m.cls) (w : (Jvm.Cond.fieldLink own index R0 n d).before a0 Z = true) (via : Via Z R0 O n d) (eT : T.heap = h) {v : Value} (F : Sta Z h O n d v) (hp : pc + 3 = pc') (hd : decode c.code pc = .ok (.getstatic index, 3))
    (k : ∀ T', Stand p l e R s m args below meth c T' locs cells slots → T'.heap = h → own_Goes p e below T' (mkF m pc' Ls (v :: st)) Q) : own_Goes p e below T (mkF m pc Ls st) Q := by
  subst hp
  obtain ⟨T', X', e', stp⟩ := getS X hx hZ (host := "") hown w via eT F (g := mkF m pc Ls st) rfl hd
  exact own_step stp (k T' X' e')
theorem own_new (X : Stand p l e R s m args below meth c T locs cells slots) (hx : p.tables.exec = Jvm.exec) (hZ : Z.Warmed39 s.vm) {own C : String} {index n : Nat} (hown : s.vm.findClass own = some m.cls) (w : (Jvm.Cond.classLink own index C).before a0 Z = true) (wi : (Jvm.Cond.instantiable C n).before a0 Z = true) (wz : (Jvm.Cond.initialized C).before a0 Z = true) (eT : T.heap = h) (hp : pc + 3 = pc') (hd : decode c.code pc = .ok (.new index, 3)) (hc : cells + 1 ≤ R.cells) (hl : slots + n ≤ R.slots)
    (k : ∀ T' h', Stand p l e R s m args below meth c T' locs (cells + 1) (slots + n) → T'.heap = h' → Ext h h' → Exa Z h' h.size C → (∀ {O nm d : String} {ty : FieldType}, Laid Z a0 C O nm d → parseFieldDescriptor d = some ty → Fld Z h' h.size O nm d (defaultValue ty)) → own_Goes p e below T' (mkF m pc' Ls (.ref h.size :: st)) Q) : own_Goes p e below T (mkF m pc Ls st) Q := by
  subst hp
  obtain ⟨T', h', X', e', E', A', D', -, stp⟩ := newO X hx hZ hown w wi wz eT (g := mkF m pc Ls st) rfl hd hc hl
  exact own_step stp (k T' h' X' e' E' A' D')
theorem own_initO (X : Stand p l e R s m args below meth c T locs cells slots) (hx : p.tables.exec = Jvm.exec) (hZ : Z.Warmed39 s.vm) {own : String} {idx : Nat} (hown : s.vm.findClass own = some m.cls) (w1 : (Jvm.Cond.methodLink own idx Lib.objectInit).before a0 Z = true) (w2 : (Jvm.Cond.instanceMethod Lib.objectInit).before a0 Z = true) (w3 : (Jvm.Cond.code Lib.objectInit ⟨#[0xb1]⟩ 1 none).before a0 Z = true) (eT : T.heap = h) (hsize : Ls.size = c.maxLocals) {a : Addr} (hp : pc + 3 = pc') (hd : decode c.code pc = .ok (.invokespecial idx, 3)) (hf : 1 ≤ R.frames) {W : Nat} (hW : (st.map fun v => v.category).sum ≤ W) (hl : W + 12 ≤ R.locals)
    (k : ∀ T', Stand p l e R s m args below meth c T' locs cells slots → T'.heap = h → own_Goes p e below T' (mkF m pc' Ls st) Q) : own_Goes p e below T (mkF m pc Ls (.ref a :: st)) Q := by
  subst hp
  obtain ⟨T', X', e', stp⟩ := initO X hx hZ hown w1 w2 w3 eT (g := mkF m pc Ls (.ref a :: st)) rfl hsize rfl hd hf (W := W) (by show 2 * 0 + _ ≤ _; omega) hl
  exact own_step stp (k T' X' e')
theorem own_callS (X : Stand p l e R s m args below meth c T locs cells slots) (hx : p.tables.exec = Jvm.exec) (hZ : Z.Warmed39 s.vm) {own : String} {index : Nat} {y : MethodName} {bytes : ByteArray} {maxL : Nat} {rt : Option FieldType} (hown : s.vm.findClass own = some m.cls) (w1 : (Jvm.Cond.methodLink own index y).before a0 Z = true) (w2 : (Jvm.Cond.static y).before a0 Z = true) (w3 : (Jvm.Cond.initialized y.cls).before a0 Z = true) (w4 : (Jvm.Cond.code y bytes maxL rt).before a0 Z = true) (hy : y.cls ≠ "java/lang/invoke/MethodHandle" ∧ y.cls ≠ "java/lang/invoke/VarHandle") {rm : Room} {as' : Array Value} {K : Option Value → Heap → List Loc → Prop} {W : Nat} (hM : MetFree l y (head1 [Jvm.Cond.code y bytes maxL rt] rm) (fun a U => a = as' ∧ Z.Warmed39 U.vm ∧ U.heap = h) (fun _ _ _ _ _ => True) (fun _ U o U' => ∃ v L, o = .returned v ∧ K v U'.heap L ∧ FrameEnd U o U' L rm.cells rm.slots)) (hf : rm.frames + 1 ≤ R.frames) (hl : W + (maxL + 11) + rm.locals ≤ R.locals) (hc : cells + rm.cells ≤ R.cells) (hs : slots + rm.slots ≤ R.slots) (eT : T.heap = h) (hsize : Ls.size = c.maxLocals) {argsL rest : List Value} (has : argsL.toArray = as') (hlen : ∀ sig, parseMethodDescriptor y.desc = some sig → argsL.length = sig.parameters.length) (hst : st = argsL.reverse ++ rest) (hW : (rest.map fun v => v.category).sum ≤ W) (hp : pc + 3 = pc') (hd : decode c.code pc = .ok (.invokestatic index, 3))
    (k : ∀ v T' L, Stand p l e R s m args below meth c T' (locs ++ L) (cells + rm.cells) (slots + rm.slots) → K v T'.heap L → own_Goes p e below T' (mkF m pc' Ls (v.toList ++ rest)) Q) : own_Goes p e below T (mkF m pc Ls st) Q := by
  subst hp
  obtain ⟨v, _, ⟨T', L', k', n'⟩, -, X', ⟨Lc, hQ, l1, y1, z1⟩, stp⟩ := Jvm.LawKit.callS X hx (y := y) hown (mvT hZ w1) (mvT hZ w2) (mvT hZ w3) (mvT hZ w4) hy (backOf (W := W) hM hZ w4 w3 hf hl) (g := mkF m pc Ls st) rfl hsize (argsL := argsL) (rest := rest) hlen hst (by show 2 * 0 + _ ≤ _; omega) hd (fun _ _ => ⟨has, eT, hc, hs⟩)
  dsimp only [Pt.U, Pt.locs, Pt.cells, Pt.slots] at X' l1 y1 z1 stp hQ
  subst l1 y1 z1
  exact own_step stp (k v T' Lc X' hQ)
theorem own_callC (X : Stand p l e R s m args below meth c T locs cells slots) (hx : p.tables.exec = Jvm.exec) (hZ : Z.Warmed39 s.vm) {own : String} {index : Nat} {y : MethodName} {bytes : ByteArray} {maxL : Nat} {a : Addr} (hy1 : y.name = "<init>") (hown : s.vm.findClass own = some m.cls) (w1 : (Jvm.Cond.methodLink own index y).before a0 Z = true) (w2 : (Jvm.Cond.instanceMethod y).before a0 Z = true) (w3 : (Jvm.Cond.initialized y.cls).before a0 Z = true) (w4 : (Jvm.Cond.code y bytes maxL none).before a0 Z = true) (hy : y.cls ≠ "java/lang/invoke/MethodHandle" ∧ y.cls ≠ "java/lang/invoke/VarHandle") {rm : Room} {as' : Array Value} {K : Option Value → Heap → List Loc → Prop} {W : Nat} (hM : MetFree l y (head1 [Jvm.Cond.code y bytes maxL none] rm) (fun a U => a = as' ∧ Z.Warmed39 U.vm ∧ U.heap = h) (fun _ _ _ _ _ => True) (fun _ U o U' => ∃ v L, o = .returned v ∧ K v U'.heap L ∧ FrameEnd U o U' L rm.cells rm.slots)) (hf : rm.frames + 1 ≤ R.frames) (hl : W + (maxL + 11) + rm.locals ≤ R.locals) (hc : cells + rm.cells ≤ R.cells) (hs : slots + rm.slots ≤ R.slots) (eT : T.heap = h) (hsize : Ls.size = c.maxLocals) {argsL rest : List Value} (has : (Value.ref a :: argsL).toArray = as') (hlen : ∀ sig, parseMethodDescriptor y.desc = some sig → argsL.length = sig.parameters.length) (hst : st = argsL.reverse ++ .ref a :: rest) (hW : (rest.map fun v => v.category).sum ≤ W) (hp : pc + 3 = pc') (hd : decode c.code pc = .ok (.invokespecial index, 3))
    (k : ∀ v T' L, Stand p l e R s m args below meth c T' (locs ++ L) (cells + rm.cells) (slots + rm.slots) → K v T'.heap L → own_Goes p e below T' (mkF m pc' Ls (v.toList ++ rest)) Q) : own_Goes p e below T (mkF m pc Ls st) Q := by
  subst hp
  obtain ⟨v, _, ⟨T', L', k', n'⟩, -, X', ⟨Lc, hQ, l1, y1, z1⟩, stp⟩ := X.specialBack hx (y := y) hy1 hown (mvT hZ w1) (mvT hZ w2) (mvT hZ w4) hy (backOf (W := W) hM hZ w4 w3 hf hl) (g := mkF m pc Ls st) rfl hsize (Steps.refl _) (a := a) (argsL := argsL) (rest := rest) hlen hst (by show 2 * 0 + _ ≤ _; omega) hd (fun _ _ => ⟨has, eT, hc, hs⟩)
  dsimp only [Pt.U, Pt.locs, Pt.cells, Pt.slots] at X' l1 y1 z1 stp hQ
  subst l1 y1 z1
  exact own_step (fun _ q => stp.trans q) (k v T' Lc X' hQ)
theorem own_callV (X : Stand p l e R s m args below meth c T locs cells slots) (hx : p.tables.exec = Jvm.exec) (hZ : Z.Warmed39 s.vm) {own C : String} {index : Nat} {y : MethodName} {bytes : ByteArray} {maxL : Nat} {rt : Option FieldType} {a : Addr} (hown : s.vm.findClass own = some m.cls) (w1 : (Jvm.Cond.methodLink own index y).before a0 Z = true) (w2 : (Jvm.Cond.declares y).before a0 Z = true) (w5 : (Jvm.Cond.selects C y y).before a0 Z = true) (w6 : (Jvm.Cond.instanceMethod y).before a0 Z = true) (w3 : (Jvm.Cond.initialized y.cls).before a0 Z = true) (w4 : (Jvm.Cond.code y bytes maxL rt).before a0 Z = true) (E : Exa Z h a C) (hy : y.cls ≠ "java/lang/invoke/MethodHandle" ∧ y.cls ≠ "java/lang/invoke/VarHandle") {rm : Room} {as' : Array Value} {K : Option Value → Heap → List Loc → Prop} {W : Nat} (hM : MetFree l y (head1 [Jvm.Cond.code y bytes maxL rt] rm) (fun a U => a = as' ∧ Z.Warmed39 U.vm ∧ U.heap = h) (fun _ _ _ _ _ => True) (fun _ U o U' => ∃ v L, o = .returned v ∧ K v U'.heap L ∧ FrameEnd U o U' L rm.cells rm.slots)) (hf : rm.frames + 1 ≤ R.frames) (hl : W + (maxL + 11) + rm.locals ≤ R.locals) (hc : cells + rm.cells ≤ R.cells) (hs : slots + rm.slots ≤ R.slots) (eT : T.heap = h) (hsize : Ls.size = c.maxLocals) {argsL rest : List Value} (has : (Value.ref a :: argsL).toArray = as') (hlen : ∀ sig, parseMethodDescriptor y.desc = some sig → argsL.length = sig.parameters.length) (hst : st = argsL.reverse ++ .ref a :: rest) (hW : (rest.map fun v => v.category).sum ≤ W) (hp : pc + 3 = pc') (hd : decode c.code pc = .ok (.invokevirtual index, 3))
    (k : ∀ v T' L, Stand p l e R s m args below meth c T' (locs ++ L) (cells + rm.cells) (slots + rm.slots) → K v T'.heap L → own_Goes p e below T' (mkF m pc' Ls (v.toList ++ rest)) Q) : own_Goes p e below T (mkF m pc Ls st) Q := by
  subst hp
  obtain ⟨cq, kq, qa, qb, qc⟩ := isOf hZ eT E
  obtain ⟨v, _, ⟨T', L', k', n'⟩, -, X', ⟨Lc, hQ, l1, y1, z1⟩, stp⟩ := X.virtualBack hx (y := y) (z := y) hown (mvT hZ w1) (mvT hZ w2) (notFace_of_selects (args := #[]) (mvT hZ w5)) (mvT hZ w5) (mvT hZ w6) hy (backOf (W := W) hM hZ w4 w3 hf hl) qa qc (g := mkF m pc Ls st) rfl hsize (Steps.refl _) (argsL := argsL) (rest := rest) hlen hst (by show 2 * 0 + _ ≤ _; omega) hd (fun _ _ => ⟨has, eT, hc, hs⟩)
  dsimp only [Pt.U, Pt.locs, Pt.cells, Pt.slots] at X' l1 y1 z1 stp hQ
  subst l1 y1 z1
  exact own_step (fun _ q => stp.trans q) (k v T' Lc X' hQ)
theorem own_callP (X : Stand p l e R s m args below meth c T locs cells slots) (hx : p.tables.exec = Jvm.exec) (hZ : Z.Warmed39 s.vm) {own C : String} {index : Nat} {y z z' : MethodName} {bytes : ByteArray} {maxL : Nat} {rt : Option FieldType} {a : Addr} {D : String} (hown : s.vm.findClass own = some m.cls) (w1 : (Jvm.Cond.methodLink own index y).before a0 Z = true) (w6 : (Jvm.Cond.instanceMethod y).before a0 Z = true) (w7 : (Jvm.Cond.privateMethod y).before a0 Z = true) (w5 : (Jvm.Cond.selects C z z').before a0 Z = true) (hcls : z'.cls = y.cls) (w3 : (Jvm.Cond.initialized y.cls).before a0 Z = true) (w4 : (Jvm.Cond.code y bytes maxL rt).before a0 Z = true) (E : Exa Z h a D) (hy : y.cls ≠ "java/lang/invoke/MethodHandle" ∧ y.cls ≠ "java/lang/invoke/VarHandle") {rm : Room} {as' : Array Value} {K : Option Value → Heap → List Loc → Prop} {W : Nat} (hM : MetFree l y (head1 [Jvm.Cond.code y bytes maxL rt] rm) (fun a U => a = as' ∧ Z.Warmed39 U.vm ∧ U.heap = h) (fun _ _ _ _ _ => True) (fun _ U o U' => ∃ v L, o = .returned v ∧ K v U'.heap L ∧ FrameEnd U o U' L rm.cells rm.slots)) (hf : rm.frames + 1 ≤ R.frames) (hl : W + (maxL + 11) + rm.locals ≤ R.locals) (hc : cells + rm.cells ≤ R.cells) (hs : slots + rm.slots ≤ R.slots) (eT : T.heap = h) (hsize : Ls.size = c.maxLocals) {argsL rest : List Value} (has : (Value.ref a :: argsL).toArray = as') (hlen : ∀ sig, parseMethodDescriptor y.desc = some sig → argsL.length = sig.parameters.length) (hst : st = argsL.reverse ++ .ref a :: rest) (hW : (rest.map fun v => v.category).sum ≤ W) (hp : pc + 3 = pc') (hd : decode c.code pc = .ok (.invokevirtual index, 3))
    (k : ∀ v T' L, Stand p l e R s m args below meth c T' (locs ++ L) (cells + rm.cells) (slots + rm.slots) → K v T'.heap L → own_Goes p e below T' (mkF m pc' Ls (v.toList ++ rest)) Q) : own_Goes p e below T (mkF m pc Ls st) Q := by
  subst hp
  have hs5 : (Jvm.Cond.selects C z z').before args s = true := mvT hZ w5
  obtain ⟨c2, r2, m2, -, -, q3, -, kP, hkP, hkPi⟩ := Cond.selects_spec hs5
  have hc2 : s.vm.findClass y.cls = some m2.cls := hcls ▸ findClass_of_methodNamed q3
  have hpriv := Cond.privateMethod_at (mvP hZ w7 (args := #[]))
  have hinst : (Jvm.Cond.instanceMethod y).before args s = true := mvT hZ w6
  have hsel := selects_self_of_private (args := args) hc2 hkP hkPi hpriv hinst hy
  obtain ⟨cq, qc, qc'⟩ := E.cell
  obtain ⟨v, _, ⟨T', L', k', n'⟩, -, X', ⟨Lc, hQ, l1, y1, z1⟩, stp⟩ := X.privateBack hx (y := y) hown (mvT hZ w1) hinst hsel hpriv (mvT hZ w4) hy (backOf (W := W) hM hZ w4 w3 hf hl) (g := mkF m pc Ls st) rfl hsize (Steps.refl _) (a := a) (cell := cq) (by rw [eT]; exact qc) qc' (argsL := argsL) (rest := rest) hlen hst (by show 2 * 0 + _ ≤ _; omega) hd (fun _ _ => ⟨has, eT, hc, hs⟩)
  dsimp only [Pt.U, Pt.locs, Pt.cells, Pt.slots] at X' l1 y1 z1 stp hQ
  subst l1 y1 z1
  exact own_step (fun _ q => stp.trans q) (k v T' Lc X' hQ)
theorem own_in {j : Int32} {k n : Nat} (hj : ¬ j < 0) (hk : j.toNatClampNeg = k) (hn : k < n) {cl : Cell} (hs : cl.slots.size = n) : ¬ (j < 0 ∨ cl.slots.size ≤ j.toNatClampNeg) := by
  rintro (q | q)
  · exact hj q
  · omega
theorem own_Arr.lt {a : Addr} {ty : FieldType} {n : Nat} {f : Nat → Value} (A : own_Arr Z h a ty n f) : a < h.size := by obtain ⟨c, A, -⟩ := A; exact A.lt
theorem own_Arr.ext {a : Addr} {ty : FieldType} {n : Nat} {f : Nat → Value} (E : Ext h h') (A : own_Arr Z h a ty n f) : own_Arr Z h' a ty n f := by obtain ⟨c, A, r⟩ := A; exact ⟨c, A.ext E, r⟩
theorem own_Arr.other {a b : Addr} {ty : FieldType} {n sl : Nat} {v : Value} {f : Nat → Value} (W : Wr h h' a sl v) (A : own_Arr Z h b ty n f) (q : b ≠ a) : own_Arr Z h' b ty n f := by obtain ⟨c, A, r⟩ := A; exact ⟨c, A.other W q, r⟩
theorem own_Arr.keep {a : Addr} {ty : FieldType} {n : Nat} {ws : List Addr} {f : Nat → Value} (K : Keep h h' ws) (A : own_Arr Z h a ty n f) (q : a ∉ ws) : own_Arr Z h' a ty n f := by obtain ⟨c, A, r⟩ := A; exact ⟨c, ⟨K.2.1 a c A.1 q, A.2⟩, r⟩
theorem own_Arr.congr {a : Addr} {ty : FieldType} {n : Nat} {f g : Nat → Value} (A : own_Arr Z h a ty n f) (q : ∀ j, j < n → f j = g j) : own_Arr Z h a ty n g := by
  obtain ⟨c, A, r1, r2, r3⟩ := A
  exact ⟨c, A, r1, r2, fun j hj => by rw [r3 j hj, q j hj]⟩
theorem own_sizWr {a : Addr} {sl n0 : Nat} {v : Value} (W : Wr h h' a sl v) (q : n0 ≤ h.size) : n0 ≤ h'.size := by rw [W.size]; exact q
theorem own_Arr.set {a : Addr} {ty : FieldType} {n k : Nat} {f : Nat → Value} {v : Value} {cl : Cell} (A : Arr Z h a cl ty) (r1 : cl.slots.size = n) (r2 : n < 2 ^ 31) (r3 : ∀ j, j < n → cl.slots[j]? = some (f j)) (hk : k < n) (W : Wr h h' a k v) : own_Arr Z h' a ty n (own_upd f k v) := by
  refine ⟨cl.setSlot k v, Arr.same W A, by rw [sz_set]; exact r1, r2, fun j hj => ?_⟩
  show (cl.slots.setIfInBounds k v)[j]? = _
  rw [Array.getElem?_setIfInBounds]
  by_cases q : k = j
  · subst q; simp [own_upd, r1, hk]
  · have q' : ¬ j = k := fun z => q z.symm
    simp [own_upd, q, q', r3 j hj]
theorem own_newarr (X : Stand p l e R s m args below meth c T locs cells slots) (hx : p.tables.exec = Jvm.exec) (hZ : Z.Warmed39 s.vm) {aty : ArrayType} (w : (Jvm.Cond.arrayClass (newarray.typeOf aty)).before a0 Z = true) (eT : T.heap = h) {n : Int32} (hp : pc + 2 = pc') (hd : decode c.code pc = .ok (.newarray aty, 2)) (hn : ¬ n < 0) {N : Nat} (hN : n.toNatClampNeg = N) {cap : Nat} (hcap : n.toNatClampNeg ≤ cap) (hb : cap * 8 ≤ 536870912) (hc : cells + 1 ≤ R.cells) (hl : slots + cap ≤ R.slots)
    (k : ∀ T' h', Stand p l e R s m args below meth c T' locs (cells + 1) (slots + cap) → T'.heap = h' → Ext h h' → own_Arr Z h' h.size (newarray.typeOf aty) N (fun _ => defaultValue (newarray.typeOf aty)) → own_Goes p e below T' (mkF m pc' Ls (.ref h.size :: st)) Q) : own_Goes p e below T (mkF m pc Ls (.int n :: st)) Q := by
  subst hp
  obtain ⟨T', h', cA, X', e', E', A', stp⟩ := newP X hx hZ w eT (g := mkF m pc Ls (.int n :: st)) rfl hd rfl hn hcap hb hc hl
  refine own_step stp (k T' h' X' e' E' ⟨_, A', by rw [sz_new, hN], by rw [← hN]; exact (back32 hn).2, fun j hj => ?_⟩)
  simp [newA, hN, hj]
theorem own_stI (X : Stand p l e R s m args below meth c T locs cells slots) (hx : p.tables.exec = Jvm.exec) (hZ : Z.Warmed39 s.vm) (eT : T.heap = h) {a : Addr} {n k : Nat} {f : Nat → Value} (A : own_Arr Z h a .int n f) {j : Int32} {x : Int32} (hj : ¬ j < 0) (hk : j.toNatClampNeg = k) (hn : k < n)  (hp : pc + 1 = pc') (hd : decode c.code pc = .ok (.iastore, 1))
    (q : ∀ T' h', Stand p l e R s m args below meth c T' (locs ++ [⟨a, k⟩]) cells slots → T'.heap = h' → Wr h h' a k (.int x) → own_Arr Z h' a .int n (own_upd f k (.int x)) → own_Goes p e below T' (mkF m pc' Ls st) Q) : own_Goes p e below T (mkF m pc Ls (.int x :: .int j :: .ref a :: st)) Q := by
  subst hp
  obtain ⟨cl, A, r1, r2, r3⟩ := A
  obtain ⟨T', h', X', e', W', stp⟩ := stI X hx hZ eT A (own_in hj hk hn r1) (g := mkF m pc Ls (.int x :: .int j :: .ref a :: st)) rfl rfl hd
  subst hk
  exact own_step stp (q T' h' X' e' W' (own_Arr.set A r1 r2 r3 hn W'))
theorem own_stJ (X : Stand p l e R s m args below meth c T locs cells slots) (hx : p.tables.exec = Jvm.exec) (hZ : Z.Warmed39 s.vm) (eT : T.heap = h) {a : Addr} {n k : Nat} {f : Nat → Value} (A : own_Arr Z h a .long n f) {j : Int32} {x : Int64} (hj : ¬ j < 0) (hk : j.toNatClampNeg = k) (hn : k < n)  (hp : pc + 1 = pc') (hd : decode c.code pc = .ok (.lastore, 1))
    (q : ∀ T' h', Stand p l e R s m args below meth c T' (locs ++ [⟨a, k⟩]) cells slots → T'.heap = h' → Wr h h' a k (.long x) → own_Arr Z h' a .long n (own_upd f k (.long x)) → own_Goes p e below T' (mkF m pc' Ls st) Q) : own_Goes p e below T (mkF m pc Ls (.long x :: .int j :: .ref a :: st)) Q := by
  subst hp
  obtain ⟨cl, A, r1, r2, r3⟩ := A
  obtain ⟨T', h', X', e', W', stp⟩ := stJ X hx hZ eT A (own_in hj hk hn r1) (g := mkF m pc Ls (.long x :: .int j :: .ref a :: st)) rfl rfl hd
  subst hk
  exact own_step stp (q T' h' X' e' W' (own_Arr.set A r1 r2 r3 hn W'))
theorem own_stB (X : Stand p l e R s m args below meth c T locs cells slots) (hx : p.tables.exec = Jvm.exec) (hZ : Z.Warmed39 s.vm) (eT : T.heap = h) {a : Addr} {n k : Nat} {f : Nat → Value} (A : own_Arr Z h a .byte n f) {j : Int32} {x y : Int32} (hj : ¬ j < 0) (hk : j.toNatClampNeg = k) (hn : k < n) (hv : nar .byte x = y) (hp : pc + 1 = pc') (hd : decode c.code pc = .ok (.bastore, 1))
    (q : ∀ T' h', Stand p l e R s m args below meth c T' (locs ++ [⟨a, k⟩]) cells slots → T'.heap = h' → Wr h h' a k (.int y) → own_Arr Z h' a .byte n (own_upd f k (.int y)) → own_Goes p e below T' (mkF m pc' Ls st) Q) : own_Goes p e below T (mkF m pc Ls (.int x :: .int j :: .ref a :: st)) Q := by
  subst hp; subst hv
  obtain ⟨cl, A, r1, r2, r3⟩ := A
  obtain ⟨T', h', X', e', W', stp⟩ := stB X hx hZ eT A (own_in hj hk hn r1) (g := mkF m pc Ls (.int x :: .int j :: .ref a :: st)) rfl rfl hd
  subst hk
  exact own_step stp (q T' h' X' e' W' (own_Arr.set A r1 r2 r3 hn W'))
theorem own_stC (X : Stand p l e R s m args below meth c T locs cells slots) (hx : p.tables.exec = Jvm.exec) (hZ : Z.Warmed39 s.vm) (eT : T.heap = h) {a : Addr} {n k : Nat} {f : Nat → Value} (A : own_Arr Z h a .char n f) {j : Int32} {x y : Int32} (hj : ¬ j < 0) (hk : j.toNatClampNeg = k) (hn : k < n) (hv : nar .char x = y) (hp : pc + 1 = pc') (hd : decode c.code pc = .ok (.castore, 1))
    (q : ∀ T' h', Stand p l e R s m args below meth c T' (locs ++ [⟨a, k⟩]) cells slots → T'.heap = h' → Wr h h' a k (.int y) → own_Arr Z h' a .char n (own_upd f k (.int y)) → own_Goes p e below T' (mkF m pc' Ls st) Q) : own_Goes p e below T (mkF m pc Ls (.int x :: .int j :: .ref a :: st)) Q := by
  subst hp; subst hv
  obtain ⟨cl, A, r1, r2, r3⟩ := A
  obtain ⟨T', h', X', e', W', stp⟩ := stC X hx hZ eT A (own_in hj hk hn r1) (g := mkF m pc Ls (.int x :: .int j :: .ref a :: st)) rfl rfl hd
  subst hk
  exact own_step stp (q T' h' X' e' W' (own_Arr.set A r1 r2 r3 hn W'))
theorem own_ldI (X : Stand p l e R s m args below meth c T locs cells slots) (hx : p.tables.exec = Jvm.exec) (hZ : Z.Warmed39 s.vm) (eT : T.heap = h) {a : Addr} {n k : Nat} {f : Nat → Value} (A : own_Arr Z h a .int n f) {j : Int32} (hj : ¬ j < 0) (hk : j.toNatClampNeg = k) (hn : k < n) {v : Value} (hv : f k = v) (hp : pc + 1 = pc') (hd : decode c.code pc = .ok (.iaload, 1)) (q : own_Goes p e below T (mkF m pc' Ls (v :: st)) Q) : own_Goes p e below T (mkF m pc Ls (.int j :: .ref a :: st)) Q := by
  subst hp
  obtain ⟨cl, A, r1, r2, r3⟩ := A
  exact own_step (fun t z => X.iaload hx (j := j) (v := v) (by rw [eT]; exact A.1) (State.isArrayOf_alike hZ.alike A.2.1) A.2.2 (own_in hj hk hn r1) (by rw [hk, r3 k hn, hv]) (g := mkF m pc Ls (.int j :: .ref a :: st)) rfl rfl hd t z) q
theorem own_ldJ (X : Stand p l e R s m args below meth c T locs cells slots) (hx : p.tables.exec = Jvm.exec) (hZ : Z.Warmed39 s.vm) (eT : T.heap = h) {a : Addr} {n k : Nat} {f : Nat → Value} (A : own_Arr Z h a .long n f) {j : Int32} (hj : ¬ j < 0) (hk : j.toNatClampNeg = k) (hn : k < n) {v : Value} (hv : f k = v) (hp : pc + 1 = pc') (hd : decode c.code pc = .ok (.laload, 1)) (q : own_Goes p e below T (mkF m pc' Ls (v :: st)) Q) : own_Goes p e below T (mkF m pc Ls (.int j :: .ref a :: st)) Q := by
  subst hp
  obtain ⟨cl, A, r1, r2, r3⟩ := A
  exact own_step (fun t z => X.laload hx (j := j) (v := v) (by rw [eT]; exact A.1) (State.isArrayOf_alike hZ.alike A.2.1) A.2.2 (own_in hj hk hn r1) (by rw [hk, r3 k hn, hv]) (g := mkF m pc Ls (.int j :: .ref a :: st)) rfl rfl hd t z) q
theorem own_ldB (X : Stand p l e R s m args below meth c T locs cells slots) (hx : p.tables.exec = Jvm.exec) (hZ : Z.Warmed39 s.vm) (eT : T.heap = h) {a : Addr} {n k : Nat} {f : Nat → Value} (A : own_Arr Z h a .byte n f) {j : Int32} (hj : ¬ j < 0) (hk : j.toNatClampNeg = k) (hn : k < n) {v : Value} (hv : f k = v) (hp : pc + 1 = pc') (hd : decode c.code pc = .ok (.baload, 1)) (q : own_Goes p e below T (mkF m pc' Ls (v :: st)) Q) : own_Goes p e below T (mkF m pc Ls (.int j :: .ref a :: st)) Q := by
  subst hp
  obtain ⟨cl, A, r1, r2, r3⟩ := A
  exact own_step (fun t z => X.baloadBytes hx (j := j) (v := v) (by rw [eT]; exact A.1) (State.isArrayOf_alike hZ.alike A.2.1) A.2.2 (own_in hj hk hn r1) (by rw [hk, r3 k hn, hv]) (g := mkF m pc Ls (.int j :: .ref a :: st)) rfl rfl hd t z) q
theorem own_ldC (X : Stand p l e R s m args below meth c T locs cells slots) (hx : p.tables.exec = Jvm.exec) (hZ : Z.Warmed39 s.vm) (eT : T.heap = h) {a : Addr} {n k : Nat} {f : Nat → Value} (A : own_Arr Z h a .char n f) {j : Int32} (hj : ¬ j < 0) (hk : j.toNatClampNeg = k) (hn : k < n) {v : Value} (hv : f k = v) (hp : pc + 1 = pc') (hd : decode c.code pc = .ok (.caload, 1)) (q : own_Goes p e below T (mkF m pc' Ls (v :: st)) Q) : own_Goes p e below T (mkF m pc Ls (.int j :: .ref a :: st)) Q := by
  subst hp
  obtain ⟨cl, A, r1, r2, r3⟩ := A
  exact own_step (fun t z => X.caload hx (j := j) (v := v) (by rw [eT]; exact A.1) (State.isArrayOf_alike hZ.alike A.2.1) A.2.2 (own_in hj hk hn r1) (by rw [hk, r3 k hn, hv]) (g := mkF m pc Ls (.int j :: .ref a :: st)) rfl rfl hd t z) q
theorem own_alen (X : Stand p l e R s m args below meth c T locs cells slots) (hx : p.tables.exec = Jvm.exec) (hZ : Z.Warmed39 s.vm) (eT : T.heap = h) {a : Addr} {ty : FieldType} {n : Nat} {f : Nat → Value} (A : own_Arr Z h a ty n f) {v : Int32} (hv : n.toInt32 = v) (hp : pc + 1 = pc') (hd : decode c.code pc = .ok (.arraylength, 1)) (q : own_Goes p e below T (mkF m pc' Ls (.int v :: st)) Q) : own_Goes p e below T (mkF m pc Ls (.ref a :: st)) Q := by
  subst hp; subst hv
  obtain ⟨cl, A, r1, r2, r3⟩ := A
  subst r1
  exact own_step (fun t z => X.arraylength hx (cell := cl) (by rw [eT]; exact A.1) (State.isArrayOf_alike hZ.alike A.2.1) (g := mkF m pc Ls (.ref a :: st)) rfl rfl hd t z) q
theorem own_instY (X : Stand p l e R s m args below meth c T locs cells slots) (hx : p.tables.exec = Jvm.exec) (hZ : Z.Warmed39 s.vm) {own K : String} {index : Nat} (hown : s.vm.findClass own = some m.cls) (w : (Jvm.Cond.classLink own index K).before a0 Z = true) (eT : T.heap = h) {a : Addr} (F : Ins Z h a K true) (hp : pc + 3 = pc') (hd : decode c.code pc = .ok (.instanceof index, 3))
    (k : ∀ T', Stand p l e R s m args below meth c T' locs cells slots → T'.heap = h → own_Goes p e below T' (mkF m pc' Ls (.int 1 :: st)) Q) : own_Goes p e below T (mkF m pc Ls (.ref a :: st)) Q := by
  subst hp
  obtain ⟨T', X', e', stp⟩ := instY X hx hZ hown w eT F (g := mkF m pc Ls (.ref a :: st)) rfl rfl hd
  exact own_step stp (k T' X' e')
theorem own_castY (X : Stand p l e R s m args below meth c T locs cells slots) (hx : p.tables.exec = Jvm.exec) (hZ : Z.Warmed39 s.vm) {own K : String} {index : Nat} (hown : s.vm.findClass own = some m.cls) (w : (Jvm.Cond.classLink own index K).before a0 Z = true) (eT : T.heap = h) {a : Addr} (F : Ins Z h a K true) (hp : pc + 3 = pc') (hd : decode c.code pc = .ok (.checkcast index, 3))
    (k : ∀ T', Stand p l e R s m args below meth c T' locs cells slots → T'.heap = h → own_Goes p e below T' (mkF m pc' Ls (.ref a :: st)) Q) : own_Goes p e below T (mkF m pc Ls (.ref a :: st)) Q := by
  subst hp
  obtain ⟨T', X', e', stp⟩ := castY X hx hZ hown w eT F (g := mkF m pc Ls (.ref a :: st)) rfl rfl hd
  exact own_step stp (k T' X' e')
theorem own_instNo (X : Stand p l e R s m args below meth c T locs cells slots) (hx : p.tables.exec = Jvm.exec) (hZ : Z.Warmed39 s.vm) {own K C : String} {index : Nat} (hown : s.vm.findClass own = some m.cls) (w : (Jvm.Cond.classLink own index K).before a0 Z = true) (eT : T.heap = h) {a : Addr} (E : Exa Z h a C) (F : ∃ c t, Z.vm.findClass C = some c ∧ Z.vm.findClass K = some t ∧ Z.vm.assignable c t = false) (hp : pc + 3 = pc') (hd : decode c.code pc = .ok (.instanceof index, 3))
    (k : ∀ T', Stand p l e R s m args below meth c T' locs cells slots → T'.heap = h → own_Goes p e below T' (mkF m pc' Ls (.int 0 :: st)) Q) : own_Goes p e below T (mkF m pc Ls (.ref a :: st)) Q := by
  subst hp
  obtain ⟨T', X', e', stp⟩ := instNo X hx hZ hown w eT E F (g := mkF m pc Ls (.ref a :: st)) rfl rfl hd
  exact own_step stp (k T' X' e')
theorem own_instNull (X : Stand p l e R s m args below meth c T locs cells slots) (hx : p.tables.exec = Jvm.exec) {index : Nat} (hp : pc + 3 = pc') (hd : decode c.code pc = .ok (.instanceof index, 3)) (k : own_Goes p e below T (mkF m pc' Ls (.int 0 :: st)) Q) : own_Goes p e below T (mkF m pc Ls (.null :: st)) Q := by
  subst hp; exact own_step (fun t q => X.instanceofNull hx (g := mkF m pc Ls (.null :: st)) rfl rfl hd t q) k
theorem own_fitR {v : Value} {C : String} (hv : v.isRef = true) : fits (.object C) v = true := by cases v <;> simp_all [fits, Value.isRef]
end Own
/-! 2. THE BODIES -/
theorem own_tn {k : Nat} (h : k < 2147483648) : (Int32.ofNat k).toInt = k := Int32.toInt_ofNat_of_lt (by omega)
theorem own_ix {k : Nat} (h : k < 2147483648) : ¬ Int32.ofNat k < 0 ∧ (Int32.ofNat k).toNatClampNeg = k := by
  constructor
  · rw [Int32.lt_iff_toInt_lt, own_tn h, show (0 : Int32).toInt = 0 from rfl]; omega
  · rw [Int32.toNatClampNeg, own_tn h]; rfl
theorem own_addn (A k : Nat) : Int32.ofNat A + Int32.ofNat k = Int32.ofNat (A + k) := (Int32.ofNat_add A k).symm
theorem own_ltn {i k : Nat} (hi : i < 2147483648) (hk : k < 2147483648) : Int32.ofNat i < Int32.ofNat k ↔ i < k := by
  rw [Int32.lt_iff_toInt_lt, own_tn hi, own_tn hk]; omega
def own_row (p s1 s2 s3 : Int32) : Int32 := if p < s1 then 0 else if p < s2 then 1 else if p < s3 then 2 else 3
def own_ge (r p s1 s2 s3 : Int32) : Prop := r = (0 : Int32) ∨ (r = (1 : Int32) ∧ ¬ p < s1) ∨ (r = (2 : Int32) ∧ ¬ p < s1 ∧ ¬ p < s2) ∨ (r = (3 : Int32) ∧ ¬ p < s1 ∧ ¬ p < s2 ∧ ¬ p < s3)
theorem own_ge_row {p q s1 s2 s3 : Int32} (h : ¬ q < p) : own_ge (own_row p s1 s2 s3) q s1 s2 s3 := by
  have t : ∀ x : Int32, ¬ p < x → ¬ q < x := fun x a b => by
    rw [Int32.lt_iff_toInt_lt] at a b h; omega
  unfold own_row own_ge
  by_cases c1 : p < s1
  · exact Or.inl (if_pos c1)
  · rw [if_neg c1]
    by_cases c2 : p < s2
    · exact Or.inr (Or.inl ⟨if_pos c2, t _ c1⟩)
    · rw [if_neg c2]
      by_cases c3 : p < s3
      · exact Or.inr (Or.inr (Or.inl ⟨if_pos c3, t _ c1, t _ c2⟩))
      · exact Or.inr (Or.inr (Or.inr ⟨if_neg c3, t _ c1, t _ c2, t _ c3⟩))
theorem own_nlt {F j : Nat} (h : F + j + 1 < 2147483648) : ¬ Int32.ofNat (F + (j + 1)) < Int32.ofNat (F + j) := by
  rw [own_ltn (by omega) (by omega)]; omega
def own_tab (N : Nat) (g : Nat → Int32) (j : Nat) : Value := .int (if j < N then g j else 0)
theorem own_t0 (g : Nat → Int32) : ∀ j, (fun _ => Value.int (0 : Int32)) j = own_tab 0 g j := fun j => by simp [own_tab]
theorem own_ts {f : Nat → Value} {k : Nat} {g : Nat → Int32} (h : ∀ j, f j = own_tab k g j) : ∀ j, own_upd f k (.int (g k)) j = own_tab (k + 1) g j := fun j => by
  unfold own_upd
  by_cases q : j = k
  · subst q; rw [if_pos rfl]; unfold own_tab; rw [if_pos (by omega)]
  · rw [if_neg q, h j]; unfold own_tab
    by_cases q2 : j < k
    · rw [if_pos q2, if_pos (by omega)]
    · rw [if_neg q2, if_neg (by omega)]
theorem own_tabv {N k : Nat} {g : Nat → Int32} (h : k < N) : own_tab N g k = .int (g k) := by unfold own_tab; rw [if_pos h]
theorem ef_rm_ctor (m : MethodId) (a1 : Addr) (p2 : Int32) : entryFrame m #[(.ref a1), (.int p2)] 2 = mkF m 0 #[.val (.ref a1), .val (.int p2)] [] := by first | (simp [entryFrame, mkF, argsToLocals, Value.category]; done) | rfl
def K_rm_ctor  (Z : State) (h0 : Heap) (n0 : Nat) (a1 : Addr) (p2 : Int32) (v : Option Value) (h : Heap) (L : List Loc) : Prop := ∃ b1 b2 b3, v = none ∧ Fr n0 L ∧ Keep h0 h [a1] ∧ Exa Z h a1 "com/example/ferrule/ferrule/fusion/CellKernel$Batch" ∧ Fld Z h a1 "com/example/ferrule/ferrule/fusion/CellKernel$Batch" "rows" "[I" (.ref b1) ∧ Fld Z h a1 "com/example/ferrule/ferrule/fusion/CellKernel$Batch" "cols" "[I" (.ref b2) ∧ Fld Z h a1 "com/example/ferrule/ferrule/fusion/CellKernel$Batch" "places" "[I" (.ref b3) ∧ Fld Z h a1 "com/example/ferrule/ferrule/fusion/CellKernel$Batch" "count" "I" (.int (0 : Int32)) ∧ Fld Z h a1 "com/example/ferrule/ferrule/fusion/CellKernel$Batch" "run" "Z" (.int (0 : Int32)) ∧ Fld Z h a1 "com/example/ferrule/ferrule/fusion/CellKernel$Batch" "width" "I" (.int (0 : Int32)) ∧ Fld Z h a1 "com/example/ferrule/ferrule/fusion/CellKernel$Batch" "first" "J" (.long (0 : Int64)) ∧ Fld Z h a1 "com/example/ferrule/ferrule/fusion/CellKernel$Batch" "located" "Z" (.int (0 : Int32)) ∧ Fld Z h a1 "com/example/ferrule/ferrule/fusion/CellKernel$Batch" "listed" "Z" (.int (1 : Int32)) ∧ own_Arr Z h b1 .int 128 (fun _ => .int (0 : Int32)) ∧ own_Arr Z h b2 .int 128 (fun _ => .int (0 : Int32)) ∧ own_Arr Z h b3 .int 128 (fun _ => .int (0 : Int32)) ∧ h0.size ≤ b1 ∧ h0.size ≤ b2 ∧ h0.size ≤ b3 ∧ b1 ≠ b2 ∧ b1 ≠ b3 ∧ b2 ≠ b3
theorem d_prog_5_method_2_code_0 : decode prog_5_method_2_code 0 = .ok (.aload_n 0, 1) := by decide +kernel
theorem d_prog_5_method_2_code_1 : decode prog_5_method_2_code 1 = .ok (.invokespecial 7, 3) := by decide +kernel
theorem d_prog_5_method_2_code_4 : decode prog_5_method_2_code 4 = .ok (.aload_n 0, 1) := by decide +kernel
theorem d_prog_5_method_2_code_5 : decode prog_5_method_2_code 5 = .ok (.sipush 128, 3) := by decide +kernel
theorem d_prog_5_method_2_code_8 : decode prog_5_method_2_code 8 = .ok (.newarray .int, 2) := by decide +kernel
theorem d_prog_5_method_2_code_10 : decode prog_5_method_2_code 10 = .ok (.putfield 12, 3) := by decide +kernel
theorem d_prog_5_method_2_code_13 : decode prog_5_method_2_code 13 = .ok (.aload_n 0, 1) := by decide +kernel
theorem d_prog_5_method_2_code_14 : decode prog_5_method_2_code 14 = .ok (.sipush 128, 3) := by decide +kernel
theorem d_prog_5_method_2_code_17 : decode prog_5_method_2_code 17 = .ok (.newarray .int, 2) := by decide +kernel
theorem d_prog_5_method_2_code_19 : decode prog_5_method_2_code 19 = .ok (.putfield 16, 3) := by decide +kernel
theorem d_prog_5_method_2_code_22 : decode prog_5_method_2_code 22 = .ok (.aload_n 0, 1) := by decide +kernel
theorem d_prog_5_method_2_code_23 : decode prog_5_method_2_code 23 = .ok (.sipush 128, 3) := by decide +kernel
theorem d_prog_5_method_2_code_26 : decode prog_5_method_2_code 26 = .ok (.newarray .int, 2) := by decide +kernel
theorem d_prog_5_method_2_code_28 : decode prog_5_method_2_code 28 = .ok (.putfield 19, 3) := by decide +kernel
theorem d_prog_5_method_2_code_31 : decode prog_5_method_2_code 31 = .ok (.aload_n 0, 1) := by decide +kernel
theorem d_prog_5_method_2_code_32 : decode prog_5_method_2_code 32 = .ok (.iconst 1, 1) := by decide +kernel
theorem d_prog_5_method_2_code_33 : decode prog_5_method_2_code 33 = .ok (.putfield 22, 3) := by decide +kernel
theorem d_prog_5_method_2_code_36 : decode prog_5_method_2_code 36 = .ok (.aload_n 0, 1) := by decide +kernel
theorem d_prog_5_method_2_code_37 : decode prog_5_method_2_code 37 = .ok (.iload_n 1, 1) := by decide +kernel
theorem d_prog_5_method_2_code_38 : decode prog_5_method_2_code 38 = .ok (.putfield 26, 3) := by decide +kernel
theorem d_prog_5_method_2_code_41 : decode prog_5_method_2_code 41 = .ok (.return_, 1) := by decide +kernel
theorem pn_com_example_ferrule_ferrule_fusion_CellKernel_Batch : plainName "com/example/ferrule/ferrule/fusion/CellKernel$Batch" = true := by first | (simp [plainName, overriddenIn]; done) | decide +kernel
set_option maxRecDepth 65536 in
set_option maxHeartbeats 40000000 in
theorem rm_ctor (l : Launch) (Z : State) (a0 : Array Value) (hw : ∀ d ∈ tables_1, d.before a0 Z = true) (ws : List Jvm.Cond)  (a1 : Addr) (p2 : Int32) (h0 : Heap) (n0 : Nat) (Z0 : n0 ≤ h0.size) (I0 : Exa Z h0 a1 "com/example/ferrule/ferrule/fusion/CellKernel$Batch") (I1 : Fld Z h0 a1 "com/example/ferrule/ferrule/fusion/CellKernel$Batch" "rows" "[I" .null) (I2 : Fld Z h0 a1 "com/example/ferrule/ferrule/fusion/CellKernel$Batch" "cols" "[I" .null) (I3 : Fld Z h0 a1 "com/example/ferrule/ferrule/fusion/CellKernel$Batch" "places" "[I" .null) (I4 : Fld Z h0 a1 "com/example/ferrule/ferrule/fusion/CellKernel$Batch" "listed" "Z" (.int (0 : Int32))) (I5 : Fld Z h0 a1 "com/example/ferrule/ferrule/fusion/CellKernel$Batch" "most" "I" (.int (0 : Int32))) (I6 : Fld Z h0 a1 "com/example/ferrule/ferrule/fusion/CellKernel$Batch" "count" "I" (.int (0 : Int32))) (I7 : Fld Z h0 a1 "com/example/ferrule/ferrule/fusion/CellKernel$Batch" "run" "Z" (.int (0 : Int32))) (I8 : Fld Z h0 a1 "com/example/ferrule/ferrule/fusion/CellKernel$Batch" "width" "I" (.int (0 : Int32))) (I9 : Fld Z h0 a1 "com/example/ferrule/ferrule/fusion/CellKernel$Batch" "first" "J" (.long (0 : Int64))) (I10 : Fld Z h0 a1 "com/example/ferrule/ferrule/fusion/CellKernel$Batch" "located" "Z" (.int (0 : Int32))) (ge_a1 : n0 ≤ a1) :
    MetFree l (⟨"com/example/ferrule/ferrule/fusion/CellKernel$Batch", "<init>", "(I)V"⟩ : MethodName) (head1 (Jvm.Cond.code (⟨"com/example/ferrule/ferrule/fusion/CellKernel$Batch", "<init>", "(I)V"⟩ : MethodName) prog_5_method_2_code 2 none :: ws) ({ frames := 1, cells := 3, slots := 384, locals := 12 } : Room)) (fun a U => a = #[(.ref a1), (.int p2)] ∧ Z.Warmed39 U.vm ∧ U.heap = h0) (fun _ _ _ _ _ => True) (fun _ U o U' => ∃ v L, o = .returned v ∧ (K_rm_ctor  Z h0 n0 a1 p2) v U'.heap L ∧ FrameEnd U o U' L ({ frames := 1, cells := 3, slots := 384, locals := 12 } : Room).cells ({ frames := 1, cells := 3, slots := 384, locals := 12 } : Room).slots) := by
  refine own_body (plainFor_of_name pn_com_example_ferrule_ferrule_fusion_CellKernel_Batch) ?_
  intro p e s m below meth c s₁ hx hby hml hown hnm hret hlk hZ X0 e0
  have hown : s.vm.findClass "com/example/ferrule/ferrule/fusion/CellKernel$Batch" = some m.cls := hown
  have N0 := Fr.nil n0
  rw [ef_rm_ctor m a1 p2]
  have K0 := Keep.refl h0 [a1]
  refine own_aloadN X0 hx (pc' := 1) rfl (hb hby d_prog_5_method_2_code_0) rfl rfl ?_
  refine own_initO X0 hx hZ hown (hw _ (List.mem_of_getElem? (i := 8) rfl)) (hw _ (List.mem_of_getElem? (i := 9) rfl)) (hw _ (List.mem_of_getElem? (i := 10) rfl)) e0 (by rw [hml]; rfl) (pc' := 4) rfl (hb hby d_prog_5_method_2_code_1) (by decide) (W := 0) (Nat.le_of_eq rfl) (by decide) ?_
  intro T1 X1 e1
  refine own_aloadN X1 hx (pc' := 5) rfl (hb hby d_prog_5_method_2_code_4) rfl rfl ?_
  refine own_sipush X1 hx (v := (128 : Int32)) (pc' := 8) rfl (hb hby d_prog_5_method_2_code_5) rfl ?_
  refine own_newarr X1 hx hZ (aty := .int) (hw _ (List.mem_of_getElem? (i := 0) rfl)) e1 (pc' := 10) rfl (hb hby d_prog_5_method_2_code_8) (by decide) (N := 128) (by decide) (cap := 128) (by decide) (by decide) (by decide) (by decide) ?_
  intro T2 h2 X2 e2 E2 A2
  obtain ⟨o2, g2⟩ : ∃ z, z = h0.size := ⟨_, rfl⟩
  rw [← g2] at A2 ⊢
  have ne2_a1 : a1 ≠ o2 := Nat.ne_of_lt (g2 ▸ I0.lt)
  have ge2 : n0 ≤ o2 := g2 ▸ Z0
  have Siz_3 := Nat.le_trans Z0 E2.1
  have Exa_4 := Exa.ext E2 I0
  have Fld_5 := Fld.ext E2 I1
  have Fld_6 := Fld.ext E2 I2
  have Fld_7 := Fld.ext E2 I3
  have Fld_8 := Fld.ext E2 I4
  have Fld_9 := Fld.ext E2 I5
  have Fld_10 := Fld.ext E2 I6
  have Fld_11 := Fld.ext E2 I7
  have Fld_12 := Fld.ext E2 I8
  have Fld_13 := Fld.ext E2 I9
  have Fld_14 := Fld.ext E2 I10
  have K2 := Keep.ext K0 E2
  refine own_putF X2 hx hZ hown (host := "") (Or.inl (hw _ (List.mem_of_getElem? (i := 11) rfl))) Via.refl e2 Fld_5 Exa_4 (Or.inr ⟨(hw _ (List.mem_of_getElem? (i := 12) rfl)), rfl, hnm⟩) (hw _ (List.mem_of_getElem? (i := 3) rfl)) (ty := (.array .int)) (by decide) rfl rfl (pc' := 13) rfl (hb hby d_prog_5_method_2_code_10) ?_
  intro T15 h15 X15 e15 W15
  have F16 := Fld.same W15 Fld_5
  have Siz_17 := own_sizWr W15 Siz_3
  have Exa_18 := Exa.wr W15 Exa_4
  have Fld_20 := Fld.other W15 Fld_6 (Or.inr (slot_ne (Or.inr (hw _ (List.mem_of_getElem? (i := 14) rfl))) (Or.inr (hw _ (List.mem_of_getElem? (i := 12) rfl))) (by decide) (t := (.array .int)) (t' := (.array .int)) (by decide) (by decide)))
  have Fld_21 := Fld.other W15 Fld_7 (Or.inr (slot_ne (Or.inr (hw _ (List.mem_of_getElem? (i := 16) rfl))) (Or.inr (hw _ (List.mem_of_getElem? (i := 12) rfl))) (by decide) (t := (.array .int)) (t' := (.array .int)) (by decide) (by decide)))
  have Fld_22 := Fld.other W15 Fld_8 (Or.inr (slot_ne (Or.inl (hw _ (List.mem_of_getElem? (i := 18) rfl))) (Or.inr (hw _ (List.mem_of_getElem? (i := 12) rfl))) (by decide) (t := .boolean) (t' := (.array .int)) (by decide) (by decide)))
  have Fld_23 := Fld.other W15 Fld_9 (Or.inr (slot_ne (Or.inr (hw _ (List.mem_of_getElem? (i := 20) rfl))) (Or.inr (hw _ (List.mem_of_getElem? (i := 12) rfl))) (by decide) (t := .int) (t' := (.array .int)) (by decide) (by decide)))
  have Fld_24 := Fld.other W15 Fld_10 (Or.inr (slot_ne (Or.inl (hw _ (List.mem_of_getElem? (i := 27) rfl))) (Or.inr (hw _ (List.mem_of_getElem? (i := 12) rfl))) (by decide) (t := .int) (t' := (.array .int)) (by decide) (by decide)))
  have Fld_25 := Fld.other W15 Fld_11 (Or.inr (slot_ne (Or.inl (hw _ (List.mem_of_getElem? (i := 29) rfl))) (Or.inr (hw _ (List.mem_of_getElem? (i := 12) rfl))) (by decide) (t := .boolean) (t' := (.array .int)) (by decide) (by decide)))
  have Fld_26 := Fld.other W15 Fld_12 (Or.inr (slot_ne (Or.inl (hw _ (List.mem_of_getElem? (i := 31) rfl))) (Or.inr (hw _ (List.mem_of_getElem? (i := 12) rfl))) (by decide) (t := .int) (t' := (.array .int)) (by decide) (by decide)))
  have Fld_27 := Fld.other W15 Fld_13 (Or.inr (slot_ne (Or.inl (hw _ (List.mem_of_getElem? (i := 33) rfl))) (Or.inr (hw _ (List.mem_of_getElem? (i := 12) rfl))) (by decide) (t := .long) (t' := (.array .int)) (by decide) (by decide)))
  have Fld_28 := Fld.other W15 Fld_14 (Or.inr (slot_ne (Or.inl (hw _ (List.mem_of_getElem? (i := 35) rfl))) (Or.inr (hw _ (List.mem_of_getElem? (i := 12) rfl))) (by decide) (t := .boolean) (t' := (.array .int)) (by decide) (by decide)))
  have Arr_29 := own_Arr.other W15 A2 (Ne.symm ne2_a1)
  have N15 := Fr.snoc X15 N0 ge_a1
  have K15 := Keep.wr K2 W15 (Or.inl (by simp))
  refine own_aloadN X15 hx (pc' := 14) rfl (hb hby d_prog_5_method_2_code_13) rfl rfl ?_
  refine own_sipush X15 hx (v := (128 : Int32)) (pc' := 17) rfl (hb hby d_prog_5_method_2_code_14) rfl ?_
  refine own_newarr X15 hx hZ (aty := .int) (hw _ (List.mem_of_getElem? (i := 0) rfl)) e15 (pc' := 19) rfl (hb hby d_prog_5_method_2_code_17) (by decide) (N := 128) (by decide) (cap := 128) (by decide) (by decide) (by decide) (by decide) ?_
  intro T30 h30 X30 e30 E30 A30
  obtain ⟨o30, g30⟩ : ∃ z, z = h15.size := ⟨_, rfl⟩
  rw [← g30] at A30 ⊢
  have ne30_a1 : a1 ≠ o30 := Nat.ne_of_lt (g30 ▸ Exa_18.lt)
  have ne30_o2 : o2 ≠ o30 := Nat.ne_of_lt (g30 ▸ (own_Arr.lt Arr_29))
  have ge30 : n0 ≤ o30 := g30 ▸ Siz_17
  have Siz_31 := Nat.le_trans Siz_17 E30.1
  have Exa_32 := Exa.ext E30 Exa_18
  have Fld_33 := Fld.ext E30 Fld_20
  have Fld_34 := Fld.ext E30 Fld_21
  have Fld_35 := Fld.ext E30 Fld_22
  have Fld_36 := Fld.ext E30 Fld_23
  have Fld_37 := Fld.ext E30 Fld_24
  have Fld_38 := Fld.ext E30 Fld_25
  have Fld_39 := Fld.ext E30 Fld_26
  have Fld_40 := Fld.ext E30 Fld_27
  have Fld_41 := Fld.ext E30 Fld_28
  have Arr_42 := own_Arr.ext E30 Arr_29
  have Fld_43 := Fld.ext E30 F16
  have K30 := Keep.ext K15 E30
  refine own_putF X30 hx hZ hown (host := "") (Or.inl (hw _ (List.mem_of_getElem? (i := 13) rfl))) Via.refl e30 Fld_33 Exa_32 (Or.inr ⟨(hw _ (List.mem_of_getElem? (i := 14) rfl)), rfl, hnm⟩) (hw _ (List.mem_of_getElem? (i := 3) rfl)) (ty := (.array .int)) (by decide) rfl rfl (pc' := 22) rfl (hb hby d_prog_5_method_2_code_19) ?_
  intro T44 h44 X44 e44 W44
  have F45 := Fld.same W44 Fld_33
  have Siz_46 := own_sizWr W44 Siz_31
  have Exa_47 := Exa.wr W44 Exa_32
  have Fld_49 := Fld.other W44 Fld_34 (Or.inr (slot_ne (Or.inr (hw _ (List.mem_of_getElem? (i := 16) rfl))) (Or.inr (hw _ (List.mem_of_getElem? (i := 14) rfl))) (by decide) (t := (.array .int)) (t' := (.array .int)) (by decide) (by decide)))
  have Fld_50 := Fld.other W44 Fld_35 (Or.inr (slot_ne (Or.inl (hw _ (List.mem_of_getElem? (i := 18) rfl))) (Or.inr (hw _ (List.mem_of_getElem? (i := 14) rfl))) (by decide) (t := .boolean) (t' := (.array .int)) (by decide) (by decide)))
  have Fld_51 := Fld.other W44 Fld_36 (Or.inr (slot_ne (Or.inr (hw _ (List.mem_of_getElem? (i := 20) rfl))) (Or.inr (hw _ (List.mem_of_getElem? (i := 14) rfl))) (by decide) (t := .int) (t' := (.array .int)) (by decide) (by decide)))
  have Fld_52 := Fld.other W44 Fld_37 (Or.inr (slot_ne (Or.inl (hw _ (List.mem_of_getElem? (i := 27) rfl))) (Or.inr (hw _ (List.mem_of_getElem? (i := 14) rfl))) (by decide) (t := .int) (t' := (.array .int)) (by decide) (by decide)))
  have Fld_53 := Fld.other W44 Fld_38 (Or.inr (slot_ne (Or.inl (hw _ (List.mem_of_getElem? (i := 29) rfl))) (Or.inr (hw _ (List.mem_of_getElem? (i := 14) rfl))) (by decide) (t := .boolean) (t' := (.array .int)) (by decide) (by decide)))
  have Fld_54 := Fld.other W44 Fld_39 (Or.inr (slot_ne (Or.inl (hw _ (List.mem_of_getElem? (i := 31) rfl))) (Or.inr (hw _ (List.mem_of_getElem? (i := 14) rfl))) (by decide) (t := .int) (t' := (.array .int)) (by decide) (by decide)))
  have Fld_55 := Fld.other W44 Fld_40 (Or.inr (slot_ne (Or.inl (hw _ (List.mem_of_getElem? (i := 33) rfl))) (Or.inr (hw _ (List.mem_of_getElem? (i := 14) rfl))) (by decide) (t := .long) (t' := (.array .int)) (by decide) (by decide)))
  have Fld_56 := Fld.other W44 Fld_41 (Or.inr (slot_ne (Or.inl (hw _ (List.mem_of_getElem? (i := 35) rfl))) (Or.inr (hw _ (List.mem_of_getElem? (i := 14) rfl))) (by decide) (t := .boolean) (t' := (.array .int)) (by decide) (by decide)))
  have Arr_57 := own_Arr.other W44 Arr_42 (Ne.symm ne2_a1)
  have Fld_58 := Fld.other W44 Fld_43 (Or.inr (slot_ne (Or.inr (hw _ (List.mem_of_getElem? (i := 12) rfl))) (Or.inr (hw _ (List.mem_of_getElem? (i := 14) rfl))) (by decide) (t := (.array .int)) (t' := (.array .int)) (by decide) (by decide)))
  have Arr_59 := own_Arr.other W44 A30 (Ne.symm ne30_a1)
  have N44 := Fr.snoc X44 N15 ge_a1
  have K44 := Keep.wr K30 W44 (Or.inl (by simp))
  refine own_aloadN X44 hx (pc' := 23) rfl (hb hby d_prog_5_method_2_code_22) rfl rfl ?_
  refine own_sipush X44 hx (v := (128 : Int32)) (pc' := 26) rfl (hb hby d_prog_5_method_2_code_23) rfl ?_
  refine own_newarr X44 hx hZ (aty := .int) (hw _ (List.mem_of_getElem? (i := 0) rfl)) e44 (pc' := 28) rfl (hb hby d_prog_5_method_2_code_26) (by decide) (N := 128) (by decide) (cap := 128) (by decide) (by decide) (by decide) (by decide) ?_
  intro T60 h60 X60 e60 E60 A60
  obtain ⟨o60, g60⟩ : ∃ z, z = h44.size := ⟨_, rfl⟩
  rw [← g60] at A60 ⊢
  have ne60_a1 : a1 ≠ o60 := Nat.ne_of_lt (g60 ▸ Exa_47.lt)
  have ne60_o2 : o2 ≠ o60 := Nat.ne_of_lt (g60 ▸ (own_Arr.lt Arr_57))
  have ne60_o30 : o30 ≠ o60 := Nat.ne_of_lt (g60 ▸ (own_Arr.lt Arr_59))
  have ge60 : n0 ≤ o60 := g60 ▸ Siz_46
  have Siz_61 := Nat.le_trans Siz_46 E60.1
  have Exa_62 := Exa.ext E60 Exa_47
  have Fld_63 := Fld.ext E60 Fld_49
  have Fld_64 := Fld.ext E60 Fld_50
  have Fld_65 := Fld.ext E60 Fld_51
  have Fld_66 := Fld.ext E60 Fld_52
  have Fld_67 := Fld.ext E60 Fld_53
  have Fld_68 := Fld.ext E60 Fld_54
  have Fld_69 := Fld.ext E60 Fld_55
  have Fld_70 := Fld.ext E60 Fld_56
  have Arr_71 := own_Arr.ext E60 Arr_57
  have Fld_72 := Fld.ext E60 Fld_58
  have Arr_73 := own_Arr.ext E60 Arr_59
  have Fld_74 := Fld.ext E60 F45
  have K60 := Keep.ext K44 E60
  refine own_putF X60 hx hZ hown (host := "") (Or.inl (hw _ (List.mem_of_getElem? (i := 15) rfl))) Via.refl e60 Fld_63 Exa_62 (Or.inr ⟨(hw _ (List.mem_of_getElem? (i := 16) rfl)), rfl, hnm⟩) (hw _ (List.mem_of_getElem? (i := 3) rfl)) (ty := (.array .int)) (by decide) rfl rfl (pc' := 31) rfl (hb hby d_prog_5_method_2_code_28) ?_
  intro T75 h75 X75 e75 W75
  have F76 := Fld.same W75 Fld_63
  have Siz_77 := own_sizWr W75 Siz_61
  have Exa_78 := Exa.wr W75 Exa_62
  have Fld_80 := Fld.other W75 Fld_64 (Or.inr (slot_ne (Or.inl (hw _ (List.mem_of_getElem? (i := 18) rfl))) (Or.inr (hw _ (List.mem_of_getElem? (i := 16) rfl))) (by decide) (t := .boolean) (t' := (.array .int)) (by decide) (by decide)))
  have Fld_81 := Fld.other W75 Fld_65 (Or.inr (slot_ne (Or.inr (hw _ (List.mem_of_getElem? (i := 20) rfl))) (Or.inr (hw _ (List.mem_of_getElem? (i := 16) rfl))) (by decide) (t := .int) (t' := (.array .int)) (by decide) (by decide)))
  have Fld_82 := Fld.other W75 Fld_66 (Or.inr (slot_ne (Or.inl (hw _ (List.mem_of_getElem? (i := 27) rfl))) (Or.inr (hw _ (List.mem_of_getElem? (i := 16) rfl))) (by decide) (t := .int) (t' := (.array .int)) (by decide) (by decide)))
  have Fld_83 := Fld.other W75 Fld_67 (Or.inr (slot_ne (Or.inl (hw _ (List.mem_of_getElem? (i := 29) rfl))) (Or.inr (hw _ (List.mem_of_getElem? (i := 16) rfl))) (by decide) (t := .boolean) (t' := (.array .int)) (by decide) (by decide)))
  have Fld_84 := Fld.other W75 Fld_68 (Or.inr (slot_ne (Or.inl (hw _ (List.mem_of_getElem? (i := 31) rfl))) (Or.inr (hw _ (List.mem_of_getElem? (i := 16) rfl))) (by decide) (t := .int) (t' := (.array .int)) (by decide) (by decide)))
  have Fld_85 := Fld.other W75 Fld_69 (Or.inr (slot_ne (Or.inl (hw _ (List.mem_of_getElem? (i := 33) rfl))) (Or.inr (hw _ (List.mem_of_getElem? (i := 16) rfl))) (by decide) (t := .long) (t' := (.array .int)) (by decide) (by decide)))
  have Fld_86 := Fld.other W75 Fld_70 (Or.inr (slot_ne (Or.inl (hw _ (List.mem_of_getElem? (i := 35) rfl))) (Or.inr (hw _ (List.mem_of_getElem? (i := 16) rfl))) (by decide) (t := .boolean) (t' := (.array .int)) (by decide) (by decide)))
  have Arr_87 := own_Arr.other W75 Arr_71 (Ne.symm ne2_a1)
  have Fld_88 := Fld.other W75 Fld_72 (Or.inr (slot_ne (Or.inr (hw _ (List.mem_of_getElem? (i := 12) rfl))) (Or.inr (hw _ (List.mem_of_getElem? (i := 16) rfl))) (by decide) (t := (.array .int)) (t' := (.array .int)) (by decide) (by decide)))
  have Arr_89 := own_Arr.other W75 Arr_73 (Ne.symm ne30_a1)
  have Fld_90 := Fld.other W75 Fld_74 (Or.inr (slot_ne (Or.inr (hw _ (List.mem_of_getElem? (i := 14) rfl))) (Or.inr (hw _ (List.mem_of_getElem? (i := 16) rfl))) (by decide) (t := (.array .int)) (t' := (.array .int)) (by decide) (by decide)))
  have Arr_91 := own_Arr.other W75 A60 (Ne.symm ne60_a1)
  have N75 := Fr.snoc X75 N44 ge_a1
  have K75 := Keep.wr K60 W75 (Or.inl (by simp))
  refine own_aloadN X75 hx (pc' := 32) rfl (hb hby d_prog_5_method_2_code_31) rfl rfl ?_
  refine own_iconst X75 hx (v := (1 : Int32)) (pc' := 33) rfl (hb hby d_prog_5_method_2_code_32) rfl ?_
  refine own_putF X75 hx hZ hown (host := "") (Or.inl (hw _ (List.mem_of_getElem? (i := 17) rfl))) Via.refl e75 Fld_80 Exa_78 (Or.inl (hw _ (List.mem_of_getElem? (i := 18) rfl))) (hw _ (List.mem_of_getElem? (i := 3) rfl)) (ty := .boolean) (by decide) rfl (by decide) (pc' := 36) rfl (hb hby d_prog_5_method_2_code_33) ?_
  intro T92 h92 X92 e92 W92
  have F93 := Fld.same W92 Fld_80
  have Siz_94 := own_sizWr W92 Siz_77
  have Exa_95 := Exa.wr W92 Exa_78
  have Fld_97 := Fld.other W92 Fld_81 (Or.inr (slot_ne (Or.inr (hw _ (List.mem_of_getElem? (i := 20) rfl))) (Or.inl (hw _ (List.mem_of_getElem? (i := 18) rfl))) (by decide) (t := .int) (t' := .boolean) (by decide) (by decide)))
  have Fld_98 := Fld.other W92 Fld_82 (Or.inr (slot_ne (Or.inl (hw _ (List.mem_of_getElem? (i := 27) rfl))) (Or.inl (hw _ (List.mem_of_getElem? (i := 18) rfl))) (by decide) (t := .int) (t' := .boolean) (by decide) (by decide)))
  have Fld_99 := Fld.other W92 Fld_83 (Or.inr (slot_ne (Or.inl (hw _ (List.mem_of_getElem? (i := 29) rfl))) (Or.inl (hw _ (List.mem_of_getElem? (i := 18) rfl))) (by decide) (t := .boolean) (t' := .boolean) (by decide) (by decide)))
  have Fld_100 := Fld.other W92 Fld_84 (Or.inr (slot_ne (Or.inl (hw _ (List.mem_of_getElem? (i := 31) rfl))) (Or.inl (hw _ (List.mem_of_getElem? (i := 18) rfl))) (by decide) (t := .int) (t' := .boolean) (by decide) (by decide)))
  have Fld_101 := Fld.other W92 Fld_85 (Or.inr (slot_ne (Or.inl (hw _ (List.mem_of_getElem? (i := 33) rfl))) (Or.inl (hw _ (List.mem_of_getElem? (i := 18) rfl))) (by decide) (t := .long) (t' := .boolean) (by decide) (by decide)))
  have Fld_102 := Fld.other W92 Fld_86 (Or.inr (slot_ne (Or.inl (hw _ (List.mem_of_getElem? (i := 35) rfl))) (Or.inl (hw _ (List.mem_of_getElem? (i := 18) rfl))) (by decide) (t := .boolean) (t' := .boolean) (by decide) (by decide)))
  have Arr_103 := own_Arr.other W92 Arr_87 (Ne.symm ne2_a1)
  have Fld_104 := Fld.other W92 Fld_88 (Or.inr (slot_ne (Or.inr (hw _ (List.mem_of_getElem? (i := 12) rfl))) (Or.inl (hw _ (List.mem_of_getElem? (i := 18) rfl))) (by decide) (t := (.array .int)) (t' := .boolean) (by decide) (by decide)))
  have Arr_105 := own_Arr.other W92 Arr_89 (Ne.symm ne30_a1)
  have Fld_106 := Fld.other W92 Fld_90 (Or.inr (slot_ne (Or.inr (hw _ (List.mem_of_getElem? (i := 14) rfl))) (Or.inl (hw _ (List.mem_of_getElem? (i := 18) rfl))) (by decide) (t := (.array .int)) (t' := .boolean) (by decide) (by decide)))
  have Arr_107 := own_Arr.other W92 Arr_91 (Ne.symm ne60_a1)
  have Fld_108 := Fld.other W92 F76 (Or.inr (slot_ne (Or.inr (hw _ (List.mem_of_getElem? (i := 16) rfl))) (Or.inl (hw _ (List.mem_of_getElem? (i := 18) rfl))) (by decide) (t := (.array .int)) (t' := .boolean) (by decide) (by decide)))
  have N92 := Fr.snoc X92 N75 ge_a1
  have K92 := Keep.wr K75 W92 (Or.inl (by simp))
  refine own_aloadN X92 hx (pc' := 37) rfl (hb hby d_prog_5_method_2_code_36) rfl rfl ?_
  refine own_iloadN X92 hx (pc' := 38) rfl (hb hby d_prog_5_method_2_code_37) rfl ?_
  refine own_putF X92 hx hZ hown (host := "") (Or.inl (hw _ (List.mem_of_getElem? (i := 19) rfl))) Via.refl e92 Fld_97 Exa_95 (Or.inr ⟨(hw _ (List.mem_of_getElem? (i := 20) rfl)), rfl, hnm⟩) (hw _ (List.mem_of_getElem? (i := 3) rfl)) (ty := .int) (by decide) rfl rfl (pc' := 41) rfl (hb hby d_prog_5_method_2_code_38) ?_
  intro T109 h109 X109 e109 W109
  have F110 := Fld.same W109 Fld_97
  have Siz_111 := own_sizWr W109 Siz_94
  have Exa_112 := Exa.wr W109 Exa_95
  have Fld_114 := Fld.other W109 Fld_98 (Or.inr (slot_ne (Or.inl (hw _ (List.mem_of_getElem? (i := 27) rfl))) (Or.inr (hw _ (List.mem_of_getElem? (i := 20) rfl))) (by decide) (t := .int) (t' := .int) (by decide) (by decide)))
  have Fld_115 := Fld.other W109 Fld_99 (Or.inr (slot_ne (Or.inl (hw _ (List.mem_of_getElem? (i := 29) rfl))) (Or.inr (hw _ (List.mem_of_getElem? (i := 20) rfl))) (by decide) (t := .boolean) (t' := .int) (by decide) (by decide)))
  have Fld_116 := Fld.other W109 Fld_100 (Or.inr (slot_ne (Or.inl (hw _ (List.mem_of_getElem? (i := 31) rfl))) (Or.inr (hw _ (List.mem_of_getElem? (i := 20) rfl))) (by decide) (t := .int) (t' := .int) (by decide) (by decide)))
  have Fld_117 := Fld.other W109 Fld_101 (Or.inr (slot_ne (Or.inl (hw _ (List.mem_of_getElem? (i := 33) rfl))) (Or.inr (hw _ (List.mem_of_getElem? (i := 20) rfl))) (by decide) (t := .long) (t' := .int) (by decide) (by decide)))
  have Fld_118 := Fld.other W109 Fld_102 (Or.inr (slot_ne (Or.inl (hw _ (List.mem_of_getElem? (i := 35) rfl))) (Or.inr (hw _ (List.mem_of_getElem? (i := 20) rfl))) (by decide) (t := .boolean) (t' := .int) (by decide) (by decide)))
  have Arr_119 := own_Arr.other W109 Arr_103 (Ne.symm ne2_a1)
  have Fld_120 := Fld.other W109 Fld_104 (Or.inr (slot_ne (Or.inr (hw _ (List.mem_of_getElem? (i := 12) rfl))) (Or.inr (hw _ (List.mem_of_getElem? (i := 20) rfl))) (by decide) (t := (.array .int)) (t' := .int) (by decide) (by decide)))
  have Arr_121 := own_Arr.other W109 Arr_105 (Ne.symm ne30_a1)
  have Fld_122 := Fld.other W109 Fld_106 (Or.inr (slot_ne (Or.inr (hw _ (List.mem_of_getElem? (i := 14) rfl))) (Or.inr (hw _ (List.mem_of_getElem? (i := 20) rfl))) (by decide) (t := (.array .int)) (t' := .int) (by decide) (by decide)))
  have Arr_123 := own_Arr.other W109 Arr_107 (Ne.symm ne60_a1)
  have Fld_124 := Fld.other W109 Fld_108 (Or.inr (slot_ne (Or.inr (hw _ (List.mem_of_getElem? (i := 16) rfl))) (Or.inr (hw _ (List.mem_of_getElem? (i := 20) rfl))) (by decide) (t := (.array .int)) (t' := .int) (by decide) (by decide)))
  have Fld_125 := Fld.other W109 F93 (Or.inr (slot_ne (Or.inl (hw _ (List.mem_of_getElem? (i := 18) rfl))) (Or.inr (hw _ (List.mem_of_getElem? (i := 20) rfl))) (by decide) (t := .boolean) (t' := .int) (by decide) (by decide)))
  have N109 := Fr.snoc X109 N92 ge_a1
  have K109 := Keep.wr K92 W109 (Or.inl (by simp))
  refine own_ret X109 hx hlk hret (hb hby d_prog_5_method_2_code_41) (by decide) (by decide) ?_
  rw [e109]
  exact ⟨o2, o30, o60, rfl, N109, K109, Exa_112, Fld_120, Fld_122, Fld_124, Fld_114, Fld_115, Fld_116, Fld_117, Fld_118, Fld_125, Arr_119, Arr_121, Arr_123, (Nat.le_trans K0.1 (Nat.le_of_eq g2.symm)), (Nat.le_trans K15.1 (Nat.le_of_eq g30.symm)), (Nat.le_trans K44.1 (Nat.le_of_eq g60.symm)), ne30_o2, ne60_o2, ne60_o30⟩
theorem ef_rm_run (m : MethodId) (a1 : Addr) (q2 : Int64) (p3 : Int32) (p4 : Int32) : entryFrame m #[(.ref a1), (.long q2), (.int p3), (.int p4)] 5 = mkF m 0 #[.val (.ref a1), .val (.long q2), .second, .val (.int p3), .val (.int p4)] [] := by first | (simp [entryFrame, mkF, argsToLocals, Value.category]; done) | rfl
def K_rm_run (b1 : Addr) (b2 : Addr) (b3 : Addr) (Z : State) (h0 : Heap) (n0 : Nat) (a1 : Addr) (q2 : Int64) (p3 : Int32) (p4 : Int32) (v : Option Value) (h : Heap) (L : List Loc) : Prop := v = none ∧ Fr n0 L ∧ Keep h0 h [a1] ∧ Exa Z h a1 "com/example/ferrule/ferrule/fusion/CellKernel$Batch" ∧ Fld Z h a1 "com/example/ferrule/ferrule/fusion/CellKernel$Batch" "rows" "[I" (.ref b1) ∧ Fld Z h a1 "com/example/ferrule/ferrule/fusion/CellKernel$Batch" "cols" "[I" (.ref b2) ∧ Fld Z h a1 "com/example/ferrule/ferrule/fusion/CellKernel$Batch" "places" "[I" (.ref b3) ∧ Fld Z h a1 "com/example/ferrule/ferrule/fusion/CellKernel$Batch" "count" "I" (.int p4) ∧ Fld Z h a1 "com/example/ferrule/ferrule/fusion/CellKernel$Batch" "run" "Z" (.int (1 : Int32)) ∧ Fld Z h a1 "com/example/ferrule/ferrule/fusion/CellKernel$Batch" "listed" "Z" (.int (0 : Int32))
theorem d_prog_5_method_5_code_0 : decode prog_5_method_5_code 0 = .ok (.aload_n 0, 1) := by decide +kernel
theorem d_prog_5_method_5_code_1 : decode prog_5_method_5_code 1 = .ok (.iload 4, 2) := by decide +kernel
theorem d_prog_5_method_5_code_3 : decode prog_5_method_5_code 3 = .ok (.putfield 30, 3) := by decide +kernel
theorem d_prog_5_method_5_code_6 : decode prog_5_method_5_code 6 = .ok (.aload_n 0, 1) := by decide +kernel
theorem d_prog_5_method_5_code_7 : decode prog_5_method_5_code 7 = .ok (.iconst 1, 1) := by decide +kernel
theorem d_prog_5_method_5_code_8 : decode prog_5_method_5_code 8 = .ok (.putfield 33, 3) := by decide +kernel
theorem d_prog_5_method_5_code_11 : decode prog_5_method_5_code 11 = .ok (.aload_n 0, 1) := by decide +kernel
theorem d_prog_5_method_5_code_12 : decode prog_5_method_5_code 12 = .ok (.iload_n 3, 1) := by decide +kernel
theorem d_prog_5_method_5_code_13 : decode prog_5_method_5_code 13 = .ok (.putfield 36, 3) := by decide +kernel
theorem d_prog_5_method_5_code_16 : decode prog_5_method_5_code 16 = .ok (.aload_n 0, 1) := by decide +kernel
theorem d_prog_5_method_5_code_17 : decode prog_5_method_5_code 17 = .ok (.lload_n 1, 1) := by decide +kernel
theorem d_prog_5_method_5_code_18 : decode prog_5_method_5_code 18 = .ok (.putfield 39, 3) := by decide +kernel
theorem d_prog_5_method_5_code_21 : decode prog_5_method_5_code 21 = .ok (.aload_n 0, 1) := by decide +kernel
theorem d_prog_5_method_5_code_22 : decode prog_5_method_5_code 22 = .ok (.iconst 0, 1) := by decide +kernel
theorem d_prog_5_method_5_code_23 : decode prog_5_method_5_code 23 = .ok (.putfield 43, 3) := by decide +kernel
theorem d_prog_5_method_5_code_26 : decode prog_5_method_5_code 26 = .ok (.aload_n 0, 1) := by decide +kernel
theorem d_prog_5_method_5_code_27 : decode prog_5_method_5_code 27 = .ok (.iconst 0, 1) := by decide +kernel
theorem d_prog_5_method_5_code_28 : decode prog_5_method_5_code 28 = .ok (.putfield 22, 3) := by decide +kernel
theorem d_prog_5_method_5_code_31 : decode prog_5_method_5_code 31 = .ok (.return_, 1) := by decide +kernel
set_option maxRecDepth 65536 in
set_option maxHeartbeats 40000000 in
theorem rm_run (l : Launch) (Z : State) (a0 : Array Value) (hw : ∀ d ∈ tables_1, d.before a0 Z = true) (ws : List Jvm.Cond) (b1 : Addr) (b2 : Addr) (b3 : Addr) (a1 : Addr) (q2 : Int64) (p3 : Int32) (p4 : Int32) (h0 : Heap) (n0 : Nat) (Z0 : n0 ≤ h0.size) (I0 : Exa Z h0 a1 "com/example/ferrule/ferrule/fusion/CellKernel$Batch") (I1 : Fld Z h0 a1 "com/example/ferrule/ferrule/fusion/CellKernel$Batch" "rows" "[I" (.ref b1)) (I2 : Fld Z h0 a1 "com/example/ferrule/ferrule/fusion/CellKernel$Batch" "cols" "[I" (.ref b2)) (I3 : Fld Z h0 a1 "com/example/ferrule/ferrule/fusion/CellKernel$Batch" "places" "[I" (.ref b3)) (I4 : Fld Z h0 a1 "com/example/ferrule/ferrule/fusion/CellKernel$Batch" "count" "I" (.int (0 : Int32))) (I5 : Fld Z h0 a1 "com/example/ferrule/ferrule/fusion/CellKernel$Batch" "run" "Z" (.int (0 : Int32))) (I6 : Fld Z h0 a1 "com/example/ferrule/ferrule/fusion/CellKernel$Batch" "width" "I" (.int (0 : Int32))) (I7 : Fld Z h0 a1 "com/example/ferrule/ferrule/fusion/CellKernel$Batch" "first" "J" (.long (0 : Int64))) (I8 : Fld Z h0 a1 "com/example/ferrule/ferrule/fusion/CellKernel$Batch" "located" "Z" (.int (0 : Int32))) (I9 : Fld Z h0 a1 "com/example/ferrule/ferrule/fusion/CellKernel$Batch" "listed" "Z" (.int (1 : Int32))) (ge_a1 : n0 ≤ a1) :
    MetFree l (⟨"com/example/ferrule/ferrule/fusion/CellKernel$Batch", "run", "(JII)V"⟩ : MethodName) (head1 (Jvm.Cond.code (⟨"com/example/ferrule/ferrule/fusion/CellKernel$Batch", "run", "(JII)V"⟩ : MethodName) prog_5_method_5_code 5 none :: ws) ({ frames := 0, cells := 0, slots := 0, locals := 0 } : Room)) (fun a U => a = #[(.ref a1), (.long q2), (.int p3), (.int p4)] ∧ Z.Warmed39 U.vm ∧ U.heap = h0) (fun _ _ _ _ _ => True) (fun _ U o U' => ∃ v L, o = .returned v ∧ (K_rm_run b1 b2 b3 Z h0 n0 a1 q2 p3 p4) v U'.heap L ∧ FrameEnd U o U' L ({ frames := 0, cells := 0, slots := 0, locals := 0 } : Room).cells ({ frames := 0, cells := 0, slots := 0, locals := 0 } : Room).slots) := by
  refine own_body (plainFor_of_name pn_com_example_ferrule_ferrule_fusion_CellKernel_Batch) ?_
  intro p e s m below meth c s₁ hx hby hml hown hnm hret hlk hZ X0 e0
  have hown : s.vm.findClass "com/example/ferrule/ferrule/fusion/CellKernel$Batch" = some m.cls := hown
  have N0 := Fr.nil n0
  rw [ef_rm_run m a1 q2 p3 p4]
  have K0 := Keep.refl h0 [a1]
  refine own_aloadN X0 hx (pc' := 1) rfl (hb hby d_prog_5_method_5_code_0) rfl rfl ?_
  refine own_iload X0 hx (pc' := 3) rfl (hb hby d_prog_5_method_5_code_1) rfl ?_
  refine own_putF X0 hx hZ hown (host := "") (Or.inl (hw _ (List.mem_of_getElem? (i := 26) rfl))) Via.refl e0 I4 I0 (Or.inl (hw _ (List.mem_of_getElem? (i := 27) rfl))) (hw _ (List.mem_of_getElem? (i := 3) rfl)) (ty := .int) (by decide) rfl rfl (pc' := 6) rfl (hb hby d_prog_5_method_5_code_3) ?_
  intro T1 h1 X1 e1 W1
  have F2 := Fld.same W1 I4
  have Siz_3 := own_sizWr W1 Z0
  have Exa_4 := Exa.wr W1 I0
  have Fld_5 := Fld.other W1 I1 (Or.inr (slot_ne (Or.inr (hw _ (List.mem_of_getElem? (i := 12) rfl))) (Or.inl (hw _ (List.mem_of_getElem? (i := 27) rfl))) (by decide) (t := (.array .int)) (t' := .int) (by decide) (by decide)))
  have Fld_6 := Fld.other W1 I2 (Or.inr (slot_ne (Or.inr (hw _ (List.mem_of_getElem? (i := 14) rfl))) (Or.inl (hw _ (List.mem_of_getElem? (i := 27) rfl))) (by decide) (t := (.array .int)) (t' := .int) (by decide) (by decide)))
  have Fld_7 := Fld.other W1 I3 (Or.inr (slot_ne (Or.inr (hw _ (List.mem_of_getElem? (i := 16) rfl))) (Or.inl (hw _ (List.mem_of_getElem? (i := 27) rfl))) (by decide) (t := (.array .int)) (t' := .int) (by decide) (by decide)))
  have Fld_9 := Fld.other W1 I5 (Or.inr (slot_ne (Or.inl (hw _ (List.mem_of_getElem? (i := 29) rfl))) (Or.inl (hw _ (List.mem_of_getElem? (i := 27) rfl))) (by decide) (t := .boolean) (t' := .int) (by decide) (by decide)))
  have Fld_10 := Fld.other W1 I6 (Or.inr (slot_ne (Or.inl (hw _ (List.mem_of_getElem? (i := 31) rfl))) (Or.inl (hw _ (List.mem_of_getElem? (i := 27) rfl))) (by decide) (t := .int) (t' := .int) (by decide) (by decide)))
  have Fld_11 := Fld.other W1 I7 (Or.inr (slot_ne (Or.inl (hw _ (List.mem_of_getElem? (i := 33) rfl))) (Or.inl (hw _ (List.mem_of_getElem? (i := 27) rfl))) (by decide) (t := .long) (t' := .int) (by decide) (by decide)))
  have Fld_12 := Fld.other W1 I8 (Or.inr (slot_ne (Or.inl (hw _ (List.mem_of_getElem? (i := 35) rfl))) (Or.inl (hw _ (List.mem_of_getElem? (i := 27) rfl))) (by decide) (t := .boolean) (t' := .int) (by decide) (by decide)))
  have Fld_13 := Fld.other W1 I9 (Or.inr (slot_ne (Or.inl (hw _ (List.mem_of_getElem? (i := 18) rfl))) (Or.inl (hw _ (List.mem_of_getElem? (i := 27) rfl))) (by decide) (t := .boolean) (t' := .int) (by decide) (by decide)))
  have N1 := Fr.snoc X1 N0 ge_a1
  have K1 := Keep.wr K0 W1 (Or.inl (by simp))
  refine own_aloadN X1 hx (pc' := 7) rfl (hb hby d_prog_5_method_5_code_6) rfl rfl ?_
  refine own_iconst X1 hx (v := (1 : Int32)) (pc' := 8) rfl (hb hby d_prog_5_method_5_code_7) rfl ?_
  refine own_putF X1 hx hZ hown (host := "") (Or.inl (hw _ (List.mem_of_getElem? (i := 28) rfl))) Via.refl e1 Fld_9 Exa_4 (Or.inl (hw _ (List.mem_of_getElem? (i := 29) rfl))) (hw _ (List.mem_of_getElem? (i := 3) rfl)) (ty := .boolean) (by decide) rfl (by decide) (pc' := 11) rfl (hb hby d_prog_5_method_5_code_8) ?_
  intro T14 h14 X14 e14 W14
  have F15 := Fld.same W14 Fld_9
  have Siz_16 := own_sizWr W14 Siz_3
  have Exa_17 := Exa.wr W14 Exa_4
  have Fld_18 := Fld.other W14 Fld_5 (Or.inr (slot_ne (Or.inr (hw _ (List.mem_of_getElem? (i := 12) rfl))) (Or.inl (hw _ (List.mem_of_getElem? (i := 29) rfl))) (by decide) (t := (.array .int)) (t' := .boolean) (by decide) (by decide)))
  have Fld_19 := Fld.other W14 Fld_6 (Or.inr (slot_ne (Or.inr (hw _ (List.mem_of_getElem? (i := 14) rfl))) (Or.inl (hw _ (List.mem_of_getElem? (i := 29) rfl))) (by decide) (t := (.array .int)) (t' := .boolean) (by decide) (by decide)))
  have Fld_20 := Fld.other W14 Fld_7 (Or.inr (slot_ne (Or.inr (hw _ (List.mem_of_getElem? (i := 16) rfl))) (Or.inl (hw _ (List.mem_of_getElem? (i := 29) rfl))) (by decide) (t := (.array .int)) (t' := .boolean) (by decide) (by decide)))
  have Fld_22 := Fld.other W14 Fld_10 (Or.inr (slot_ne (Or.inl (hw _ (List.mem_of_getElem? (i := 31) rfl))) (Or.inl (hw _ (List.mem_of_getElem? (i := 29) rfl))) (by decide) (t := .int) (t' := .boolean) (by decide) (by decide)))
  have Fld_23 := Fld.other W14 Fld_11 (Or.inr (slot_ne (Or.inl (hw _ (List.mem_of_getElem? (i := 33) rfl))) (Or.inl (hw _ (List.mem_of_getElem? (i := 29) rfl))) (by decide) (t := .long) (t' := .boolean) (by decide) (by decide)))
  have Fld_24 := Fld.other W14 Fld_12 (Or.inr (slot_ne (Or.inl (hw _ (List.mem_of_getElem? (i := 35) rfl))) (Or.inl (hw _ (List.mem_of_getElem? (i := 29) rfl))) (by decide) (t := .boolean) (t' := .boolean) (by decide) (by decide)))
  have Fld_25 := Fld.other W14 Fld_13 (Or.inr (slot_ne (Or.inl (hw _ (List.mem_of_getElem? (i := 18) rfl))) (Or.inl (hw _ (List.mem_of_getElem? (i := 29) rfl))) (by decide) (t := .boolean) (t' := .boolean) (by decide) (by decide)))
  have Fld_26 := Fld.other W14 F2 (Or.inr (slot_ne (Or.inl (hw _ (List.mem_of_getElem? (i := 27) rfl))) (Or.inl (hw _ (List.mem_of_getElem? (i := 29) rfl))) (by decide) (t := .int) (t' := .boolean) (by decide) (by decide)))
  have N14 := Fr.snoc X14 N1 ge_a1
  have K14 := Keep.wr K1 W14 (Or.inl (by simp))
  refine own_aloadN X14 hx (pc' := 12) rfl (hb hby d_prog_5_method_5_code_11) rfl rfl ?_
  refine own_iloadN X14 hx (pc' := 13) rfl (hb hby d_prog_5_method_5_code_12) rfl ?_
  refine own_putF X14 hx hZ hown (host := "") (Or.inl (hw _ (List.mem_of_getElem? (i := 30) rfl))) Via.refl e14 Fld_22 Exa_17 (Or.inl (hw _ (List.mem_of_getElem? (i := 31) rfl))) (hw _ (List.mem_of_getElem? (i := 3) rfl)) (ty := .int) (by decide) rfl rfl (pc' := 16) rfl (hb hby d_prog_5_method_5_code_13) ?_
  intro T27 h27 X27 e27 W27
  have F28 := Fld.same W27 Fld_22
  have Siz_29 := own_sizWr W27 Siz_16
  have Exa_30 := Exa.wr W27 Exa_17
  have Fld_31 := Fld.other W27 Fld_18 (Or.inr (slot_ne (Or.inr (hw _ (List.mem_of_getElem? (i := 12) rfl))) (Or.inl (hw _ (List.mem_of_getElem? (i := 31) rfl))) (by decide) (t := (.array .int)) (t' := .int) (by decide) (by decide)))
  have Fld_32 := Fld.other W27 Fld_19 (Or.inr (slot_ne (Or.inr (hw _ (List.mem_of_getElem? (i := 14) rfl))) (Or.inl (hw _ (List.mem_of_getElem? (i := 31) rfl))) (by decide) (t := (.array .int)) (t' := .int) (by decide) (by decide)))
  have Fld_33 := Fld.other W27 Fld_20 (Or.inr (slot_ne (Or.inr (hw _ (List.mem_of_getElem? (i := 16) rfl))) (Or.inl (hw _ (List.mem_of_getElem? (i := 31) rfl))) (by decide) (t := (.array .int)) (t' := .int) (by decide) (by decide)))
  have Fld_35 := Fld.other W27 Fld_23 (Or.inr (slot_ne (Or.inl (hw _ (List.mem_of_getElem? (i := 33) rfl))) (Or.inl (hw _ (List.mem_of_getElem? (i := 31) rfl))) (by decide) (t := .long) (t' := .int) (by decide) (by decide)))
  have Fld_36 := Fld.other W27 Fld_24 (Or.inr (slot_ne (Or.inl (hw _ (List.mem_of_getElem? (i := 35) rfl))) (Or.inl (hw _ (List.mem_of_getElem? (i := 31) rfl))) (by decide) (t := .boolean) (t' := .int) (by decide) (by decide)))
  have Fld_37 := Fld.other W27 Fld_25 (Or.inr (slot_ne (Or.inl (hw _ (List.mem_of_getElem? (i := 18) rfl))) (Or.inl (hw _ (List.mem_of_getElem? (i := 31) rfl))) (by decide) (t := .boolean) (t' := .int) (by decide) (by decide)))
  have Fld_38 := Fld.other W27 Fld_26 (Or.inr (slot_ne (Or.inl (hw _ (List.mem_of_getElem? (i := 27) rfl))) (Or.inl (hw _ (List.mem_of_getElem? (i := 31) rfl))) (by decide) (t := .int) (t' := .int) (by decide) (by decide)))
  have Fld_39 := Fld.other W27 F15 (Or.inr (slot_ne (Or.inl (hw _ (List.mem_of_getElem? (i := 29) rfl))) (Or.inl (hw _ (List.mem_of_getElem? (i := 31) rfl))) (by decide) (t := .boolean) (t' := .int) (by decide) (by decide)))
  have N27 := Fr.snoc X27 N14 ge_a1
  have K27 := Keep.wr K14 W27 (Or.inl (by simp))
  refine own_aloadN X27 hx (pc' := 17) rfl (hb hby d_prog_5_method_5_code_16) rfl rfl ?_
  refine own_lloadN X27 hx (pc' := 18) rfl (hb hby d_prog_5_method_5_code_17) rfl ?_
  refine own_putF X27 hx hZ hown (host := "") (Or.inl (hw _ (List.mem_of_getElem? (i := 32) rfl))) Via.refl e27 Fld_35 Exa_30 (Or.inl (hw _ (List.mem_of_getElem? (i := 33) rfl))) (hw _ (List.mem_of_getElem? (i := 3) rfl)) (ty := .long) (by decide) rfl rfl (pc' := 21) rfl (hb hby d_prog_5_method_5_code_18) ?_
  intro T40 h40 X40 e40 W40
  have F41 := Fld.same W40 Fld_35
  have Siz_42 := own_sizWr W40 Siz_29
  have Exa_43 := Exa.wr W40 Exa_30
  have Fld_44 := Fld.other W40 Fld_31 (Or.inr (slot_ne (Or.inr (hw _ (List.mem_of_getElem? (i := 12) rfl))) (Or.inl (hw _ (List.mem_of_getElem? (i := 33) rfl))) (by decide) (t := (.array .int)) (t' := .long) (by decide) (by decide)))
  have Fld_45 := Fld.other W40 Fld_32 (Or.inr (slot_ne (Or.inr (hw _ (List.mem_of_getElem? (i := 14) rfl))) (Or.inl (hw _ (List.mem_of_getElem? (i := 33) rfl))) (by decide) (t := (.array .int)) (t' := .long) (by decide) (by decide)))
  have Fld_46 := Fld.other W40 Fld_33 (Or.inr (slot_ne (Or.inr (hw _ (List.mem_of_getElem? (i := 16) rfl))) (Or.inl (hw _ (List.mem_of_getElem? (i := 33) rfl))) (by decide) (t := (.array .int)) (t' := .long) (by decide) (by decide)))
  have Fld_48 := Fld.other W40 Fld_36 (Or.inr (slot_ne (Or.inl (hw _ (List.mem_of_getElem? (i := 35) rfl))) (Or.inl (hw _ (List.mem_of_getElem? (i := 33) rfl))) (by decide) (t := .boolean) (t' := .long) (by decide) (by decide)))
  have Fld_49 := Fld.other W40 Fld_37 (Or.inr (slot_ne (Or.inl (hw _ (List.mem_of_getElem? (i := 18) rfl))) (Or.inl (hw _ (List.mem_of_getElem? (i := 33) rfl))) (by decide) (t := .boolean) (t' := .long) (by decide) (by decide)))
  have Fld_50 := Fld.other W40 Fld_38 (Or.inr (slot_ne (Or.inl (hw _ (List.mem_of_getElem? (i := 27) rfl))) (Or.inl (hw _ (List.mem_of_getElem? (i := 33) rfl))) (by decide) (t := .int) (t' := .long) (by decide) (by decide)))
  have Fld_51 := Fld.other W40 Fld_39 (Or.inr (slot_ne (Or.inl (hw _ (List.mem_of_getElem? (i := 29) rfl))) (Or.inl (hw _ (List.mem_of_getElem? (i := 33) rfl))) (by decide) (t := .boolean) (t' := .long) (by decide) (by decide)))
  have Fld_52 := Fld.other W40 F28 (Or.inr (slot_ne (Or.inl (hw _ (List.mem_of_getElem? (i := 31) rfl))) (Or.inl (hw _ (List.mem_of_getElem? (i := 33) rfl))) (by decide) (t := .int) (t' := .long) (by decide) (by decide)))
  have N40 := Fr.snoc X40 N27 ge_a1
  have K40 := Keep.wr K27 W40 (Or.inl (by simp))
  refine own_aloadN X40 hx (pc' := 22) rfl (hb hby d_prog_5_method_5_code_21) rfl rfl ?_
  refine own_iconst X40 hx (v := (0 : Int32)) (pc' := 23) rfl (hb hby d_prog_5_method_5_code_22) rfl ?_
  refine own_putF X40 hx hZ hown (host := "") (Or.inl (hw _ (List.mem_of_getElem? (i := 34) rfl))) Via.refl e40 Fld_48 Exa_43 (Or.inl (hw _ (List.mem_of_getElem? (i := 35) rfl))) (hw _ (List.mem_of_getElem? (i := 3) rfl)) (ty := .boolean) (by decide) rfl (by decide) (pc' := 26) rfl (hb hby d_prog_5_method_5_code_23) ?_
  intro T53 h53 X53 e53 W53
  have F54 := Fld.same W53 Fld_48
  have Siz_55 := own_sizWr W53 Siz_42
  have Exa_56 := Exa.wr W53 Exa_43
  have Fld_57 := Fld.other W53 Fld_44 (Or.inr (slot_ne (Or.inr (hw _ (List.mem_of_getElem? (i := 12) rfl))) (Or.inl (hw _ (List.mem_of_getElem? (i := 35) rfl))) (by decide) (t := (.array .int)) (t' := .boolean) (by decide) (by decide)))
  have Fld_58 := Fld.other W53 Fld_45 (Or.inr (slot_ne (Or.inr (hw _ (List.mem_of_getElem? (i := 14) rfl))) (Or.inl (hw _ (List.mem_of_getElem? (i := 35) rfl))) (by decide) (t := (.array .int)) (t' := .boolean) (by decide) (by decide)))
  have Fld_59 := Fld.other W53 Fld_46 (Or.inr (slot_ne (Or.inr (hw _ (List.mem_of_getElem? (i := 16) rfl))) (Or.inl (hw _ (List.mem_of_getElem? (i := 35) rfl))) (by decide) (t := (.array .int)) (t' := .boolean) (by decide) (by decide)))
  have Fld_61 := Fld.other W53 Fld_49 (Or.inr (slot_ne (Or.inl (hw _ (List.mem_of_getElem? (i := 18) rfl))) (Or.inl (hw _ (List.mem_of_getElem? (i := 35) rfl))) (by decide) (t := .boolean) (t' := .boolean) (by decide) (by decide)))
  have Fld_62 := Fld.other W53 Fld_50 (Or.inr (slot_ne (Or.inl (hw _ (List.mem_of_getElem? (i := 27) rfl))) (Or.inl (hw _ (List.mem_of_getElem? (i := 35) rfl))) (by decide) (t := .int) (t' := .boolean) (by decide) (by decide)))
  have Fld_63 := Fld.other W53 Fld_51 (Or.inr (slot_ne (Or.inl (hw _ (List.mem_of_getElem? (i := 29) rfl))) (Or.inl (hw _ (List.mem_of_getElem? (i := 35) rfl))) (by decide) (t := .boolean) (t' := .boolean) (by decide) (by decide)))
  have Fld_64 := Fld.other W53 Fld_52 (Or.inr (slot_ne (Or.inl (hw _ (List.mem_of_getElem? (i := 31) rfl))) (Or.inl (hw _ (List.mem_of_getElem? (i := 35) rfl))) (by decide) (t := .int) (t' := .boolean) (by decide) (by decide)))
  have Fld_65 := Fld.other W53 F41 (Or.inr (slot_ne (Or.inl (hw _ (List.mem_of_getElem? (i := 33) rfl))) (Or.inl (hw _ (List.mem_of_getElem? (i := 35) rfl))) (by decide) (t := .long) (t' := .boolean) (by decide) (by decide)))
  have N53 := Fr.snoc X53 N40 ge_a1
  have K53 := Keep.wr K40 W53 (Or.inl (by simp))
  refine own_aloadN X53 hx (pc' := 27) rfl (hb hby d_prog_5_method_5_code_26) rfl rfl ?_
  refine own_iconst X53 hx (v := (0 : Int32)) (pc' := 28) rfl (hb hby d_prog_5_method_5_code_27) rfl ?_
  refine own_putF X53 hx hZ hown (host := "") (Or.inl (hw _ (List.mem_of_getElem? (i := 17) rfl))) Via.refl e53 Fld_61 Exa_56 (Or.inl (hw _ (List.mem_of_getElem? (i := 18) rfl))) (hw _ (List.mem_of_getElem? (i := 3) rfl)) (ty := .boolean) (by decide) rfl (by decide) (pc' := 31) rfl (hb hby d_prog_5_method_5_code_28) ?_
  intro T66 h66 X66 e66 W66
  have F67 := Fld.same W66 Fld_61
  have Siz_68 := own_sizWr W66 Siz_55
  have Exa_69 := Exa.wr W66 Exa_56
  have Fld_70 := Fld.other W66 Fld_57 (Or.inr (slot_ne (Or.inr (hw _ (List.mem_of_getElem? (i := 12) rfl))) (Or.inl (hw _ (List.mem_of_getElem? (i := 18) rfl))) (by decide) (t := (.array .int)) (t' := .boolean) (by decide) (by decide)))
  have Fld_71 := Fld.other W66 Fld_58 (Or.inr (slot_ne (Or.inr (hw _ (List.mem_of_getElem? (i := 14) rfl))) (Or.inl (hw _ (List.mem_of_getElem? (i := 18) rfl))) (by decide) (t := (.array .int)) (t' := .boolean) (by decide) (by decide)))
  have Fld_72 := Fld.other W66 Fld_59 (Or.inr (slot_ne (Or.inr (hw _ (List.mem_of_getElem? (i := 16) rfl))) (Or.inl (hw _ (List.mem_of_getElem? (i := 18) rfl))) (by decide) (t := (.array .int)) (t' := .boolean) (by decide) (by decide)))
  have Fld_74 := Fld.other W66 Fld_62 (Or.inr (slot_ne (Or.inl (hw _ (List.mem_of_getElem? (i := 27) rfl))) (Or.inl (hw _ (List.mem_of_getElem? (i := 18) rfl))) (by decide) (t := .int) (t' := .boolean) (by decide) (by decide)))
  have Fld_75 := Fld.other W66 Fld_63 (Or.inr (slot_ne (Or.inl (hw _ (List.mem_of_getElem? (i := 29) rfl))) (Or.inl (hw _ (List.mem_of_getElem? (i := 18) rfl))) (by decide) (t := .boolean) (t' := .boolean) (by decide) (by decide)))
  have Fld_76 := Fld.other W66 Fld_64 (Or.inr (slot_ne (Or.inl (hw _ (List.mem_of_getElem? (i := 31) rfl))) (Or.inl (hw _ (List.mem_of_getElem? (i := 18) rfl))) (by decide) (t := .int) (t' := .boolean) (by decide) (by decide)))
  have Fld_77 := Fld.other W66 Fld_65 (Or.inr (slot_ne (Or.inl (hw _ (List.mem_of_getElem? (i := 33) rfl))) (Or.inl (hw _ (List.mem_of_getElem? (i := 18) rfl))) (by decide) (t := .long) (t' := .boolean) (by decide) (by decide)))
  have Fld_78 := Fld.other W66 F54 (Or.inr (slot_ne (Or.inl (hw _ (List.mem_of_getElem? (i := 35) rfl))) (Or.inl (hw _ (List.mem_of_getElem? (i := 18) rfl))) (by decide) (t := .boolean) (t' := .boolean) (by decide) (by decide)))
  have N66 := Fr.snoc X66 N53 ge_a1
  have K66 := Keep.wr K53 W66 (Or.inl (by simp))
  refine own_ret X66 hx hlk hret (hb hby d_prog_5_method_5_code_31) (by decide) (by decide) ?_
  rw [e66]
  exact ⟨rfl, N66, K66, Exa_69, Fld_70, Fld_71, Fld_72, Fld_74, Fld_75, F67⟩
theorem d_prog_5_method_17_code_20 : decode prog_5_method_17_code 20 = .ok (.iload 8, 2) := by decide +kernel
theorem d_prog_5_method_17_code_22 : decode prog_5_method_17_code 22 = .ok (.aload_n 2, 1) := by decide +kernel
theorem d_prog_5_method_17_code_23 : decode prog_5_method_17_code 23 = .ok (.iload 6, 2) := by decide +kernel
theorem d_prog_5_method_17_code_25 : decode prog_5_method_17_code 25 = .ok (.iconst 1, 1) := by decide +kernel
theorem d_prog_5_method_17_code_26 : decode prog_5_method_17_code 26 = .ok (.iadd, 1) := by decide +kernel
theorem d_prog_5_method_17_code_27 : decode prog_5_method_17_code 27 = .ok (.iaload, 1) := by decide +kernel
theorem d_prog_5_method_17_code_28 : decode prog_5_method_17_code 28 = .ok (.if_icmp .lt 9, 3) := by decide +kernel
theorem d_prog_5_method_17_code_31 : decode prog_5_method_17_code 31 = .ok (.iinc 6 1, 3) := by decide +kernel
theorem d_prog_5_method_17_code_34 : decode prog_5_method_17_code 34 = .ok (.goto (-14), 3) := by decide +kernel
set_option maxRecDepth 65536 in
set_option maxHeartbeats 40000000 in
theorem own_while {p : Program} {l : Launch} {e : Env} {R : Room} {s : State} {m : MethodId} {args : Array Value} {below : List Frame} {meth : Method} {c : Code} {T : State} {locs : List Loc} {cells slots : Nat} {Z : State} {h : Heap} {Q : Outcome → State → Prop} {x0 x2 x3 : Addr} {x1 x4 x5 x7 r q s1 s2 s3 s4 : Int32} {frs : Nat → Value} (X : Stand p l e R s m args below meth c T locs cells slots) (hx : p.tables.exec = Jvm.exec) (hby : c.code = prog_5_method_17_code) (hZ : Z.Warmed39 s.vm) (eT : T.heap = h) (A : own_Arr Z h x2 .int 5 frs) (hfr : frs 1 = .int s1 ∧ frs 2 = .int s2 ∧ frs 3 = .int s3 ∧ frs 4 = .int s4) (hge : own_ge r q s1 s2 s3) (h4 : q < s4) (k : own_Goes p e below T (mkF m 37 #[.val (.ref x0), .val (.int x1), .val (.ref x2), .val (.ref x3), .val (.int x4), .val (.int x5), .val (.int (own_row q s1 s2 s3)), .val (.int x7), .val (.int q)] []) Q) : own_Goes p e below T (mkF m 20 #[.val (.ref x0), .val (.int x1), .val (.ref x2), .val (.ref x3), .val (.int x4), .val (.int x5), .val (.int r), .val (.int x7), .val (.int q)] []) Q := by
  rcases hge with rfl | ⟨rfl, g1⟩ | ⟨rfl, g1, g2⟩ | ⟨rfl, g1, g2, g3⟩
  · refine own_iload X hx (pc' := 22) rfl (hb hby d_prog_5_method_17_code_20) rfl ?_
    refine own_aloadN X hx (pc' := 23) rfl (hb hby d_prog_5_method_17_code_22) rfl rfl ?_
    refine own_iload X hx (pc' := 25) rfl (hb hby d_prog_5_method_17_code_23) rfl ?_
    refine own_iconst X hx (v := (1 : Int32)) (pc' := 26) rfl (hb hby d_prog_5_method_17_code_25) rfl ?_
    refine own_iadd X hx (v := (1 : Int32)) (pc' := 27) rfl (hb hby d_prog_5_method_17_code_26) (by decide) ?_
    refine own_ldI X hx hZ eT A (k := 1) (by decide) (by decide) (by decide) (v := (.int s1)) hfr.1 (pc' := 28) rfl (hb hby d_prog_5_method_17_code_27) ?_
    by_cases c28_1 : q < s1
    · refine own_icmpT X hx (pc' := 37) (hb hby d_prog_5_method_17_code_28) (XT.ii_lt_t c28_1) (by decide) (by decide) ?_
      rw [show own_row q s1 s2 s3 = (0 : Int32) from by first | (simp only [own_row, if_pos c28_1]; done) | (simp only [own_row, if_pos c28_1]; rfl)] at k
      exact k
    · refine own_icmpF X hx (pc' := 31) rfl (hb hby d_prog_5_method_17_code_28) (XT.ii_lt_f c28_1) ?_
      refine own_iinc X hx (v := (1 : Int32)) (Ls' := #[.val (.ref x0), .val (.int x1), .val (.ref x2), .val (.ref x3), .val (.int x4), .val (.int x5), .val (.int (1 : Int32)), .val (.int x7), .val (.int q)]) (pc' := 34) rfl (hb hby d_prog_5_method_17_code_31) rfl (by decide) rfl ?_
      refine own_goto X hx (pc' := 20) (hb hby d_prog_5_method_17_code_34) (by decide) (by decide) ?_
      refine own_iload X hx (pc' := 22) rfl (hb hby d_prog_5_method_17_code_20) rfl ?_
      refine own_aloadN X hx (pc' := 23) rfl (hb hby d_prog_5_method_17_code_22) rfl rfl ?_
      refine own_iload X hx (pc' := 25) rfl (hb hby d_prog_5_method_17_code_23) rfl ?_
      refine own_iconst X hx (v := (1 : Int32)) (pc' := 26) rfl (hb hby d_prog_5_method_17_code_25) rfl ?_
      refine own_iadd X hx (v := (2 : Int32)) (pc' := 27) rfl (hb hby d_prog_5_method_17_code_26) (by decide) ?_
      refine own_ldI X hx hZ eT A (k := 2) (by decide) (by decide) (by decide) (v := (.int s2)) hfr.2.1 (pc' := 28) rfl (hb hby d_prog_5_method_17_code_27) ?_
      by_cases c28_2 : q < s2
      · refine own_icmpT X hx (pc' := 37) (hb hby d_prog_5_method_17_code_28) (XT.ii_lt_t c28_2) (by decide) (by decide) ?_
        rw [show own_row q s1 s2 s3 = (1 : Int32) from by first | (simp only [own_row, if_neg c28_1, if_pos c28_2]; done) | (simp only [own_row, if_neg c28_1, if_pos c28_2]; rfl)] at k
        exact k
      · refine own_icmpF X hx (pc' := 31) rfl (hb hby d_prog_5_method_17_code_28) (XT.ii_lt_f c28_2) ?_
        refine own_iinc X hx (v := (2 : Int32)) (Ls' := #[.val (.ref x0), .val (.int x1), .val (.ref x2), .val (.ref x3), .val (.int x4), .val (.int x5), .val (.int (2 : Int32)), .val (.int x7), .val (.int q)]) (pc' := 34) rfl (hb hby d_prog_5_method_17_code_31) rfl (by decide) rfl ?_
        refine own_goto X hx (pc' := 20) (hb hby d_prog_5_method_17_code_34) (by decide) (by decide) ?_
        refine own_iload X hx (pc' := 22) rfl (hb hby d_prog_5_method_17_code_20) rfl ?_
        refine own_aloadN X hx (pc' := 23) rfl (hb hby d_prog_5_method_17_code_22) rfl rfl ?_
        refine own_iload X hx (pc' := 25) rfl (hb hby d_prog_5_method_17_code_23) rfl ?_
        refine own_iconst X hx (v := (1 : Int32)) (pc' := 26) rfl (hb hby d_prog_5_method_17_code_25) rfl ?_
        refine own_iadd X hx (v := (3 : Int32)) (pc' := 27) rfl (hb hby d_prog_5_method_17_code_26) (by decide) ?_
        refine own_ldI X hx hZ eT A (k := 3) (by decide) (by decide) (by decide) (v := (.int s3)) hfr.2.2.1 (pc' := 28) rfl (hb hby d_prog_5_method_17_code_27) ?_
        by_cases c28_3 : q < s3
        · refine own_icmpT X hx (pc' := 37) (hb hby d_prog_5_method_17_code_28) (XT.ii_lt_t c28_3) (by decide) (by decide) ?_
          rw [show own_row q s1 s2 s3 = (2 : Int32) from by first | (simp only [own_row, if_neg c28_1, if_neg c28_2, if_pos c28_3]; done) | (simp only [own_row, if_neg c28_1, if_neg c28_2, if_pos c28_3]; rfl)] at k
          exact k
        · refine own_icmpF X hx (pc' := 31) rfl (hb hby d_prog_5_method_17_code_28) (XT.ii_lt_f c28_3) ?_
          refine own_iinc X hx (v := (3 : Int32)) (Ls' := #[.val (.ref x0), .val (.int x1), .val (.ref x2), .val (.ref x3), .val (.int x4), .val (.int x5), .val (.int (3 : Int32)), .val (.int x7), .val (.int q)]) (pc' := 34) rfl (hb hby d_prog_5_method_17_code_31) rfl (by decide) rfl ?_
          refine own_goto X hx (pc' := 20) (hb hby d_prog_5_method_17_code_34) (by decide) (by decide) ?_
          refine own_iload X hx (pc' := 22) rfl (hb hby d_prog_5_method_17_code_20) rfl ?_
          refine own_aloadN X hx (pc' := 23) rfl (hb hby d_prog_5_method_17_code_22) rfl rfl ?_
          refine own_iload X hx (pc' := 25) rfl (hb hby d_prog_5_method_17_code_23) rfl ?_
          refine own_iconst X hx (v := (1 : Int32)) (pc' := 26) rfl (hb hby d_prog_5_method_17_code_25) rfl ?_
          refine own_iadd X hx (v := (4 : Int32)) (pc' := 27) rfl (hb hby d_prog_5_method_17_code_26) (by decide) ?_
          refine own_ldI X hx hZ eT A (k := 4) (by decide) (by decide) (by decide) (v := (.int s4)) hfr.2.2.2 (pc' := 28) rfl (hb hby d_prog_5_method_17_code_27) ?_
          refine own_icmpT X hx (pc' := 37) (hb hby d_prog_5_method_17_code_28) (XT.ii_lt_t h4) (by decide) (by decide) ?_
          rw [show own_row q s1 s2 s3 = (3 : Int32) from by first | (simp only [own_row, if_neg c28_1, if_neg c28_2, if_neg c28_3]; done) | (simp only [own_row, if_neg c28_1, if_neg c28_2, if_neg c28_3]; rfl)] at k
          exact k
  · refine own_iload X hx (pc' := 22) rfl (hb hby d_prog_5_method_17_code_20) rfl ?_
    refine own_aloadN X hx (pc' := 23) rfl (hb hby d_prog_5_method_17_code_22) rfl rfl ?_
    refine own_iload X hx (pc' := 25) rfl (hb hby d_prog_5_method_17_code_23) rfl ?_
    refine own_iconst X hx (v := (1 : Int32)) (pc' := 26) rfl (hb hby d_prog_5_method_17_code_25) rfl ?_
    refine own_iadd X hx (v := (2 : Int32)) (pc' := 27) rfl (hb hby d_prog_5_method_17_code_26) (by decide) ?_
    refine own_ldI X hx hZ eT A (k := 2) (by decide) (by decide) (by decide) (v := (.int s2)) hfr.2.1 (pc' := 28) rfl (hb hby d_prog_5_method_17_code_27) ?_
    by_cases c28_4 : q < s2
    · refine own_icmpT X hx (pc' := 37) (hb hby d_prog_5_method_17_code_28) (XT.ii_lt_t c28_4) (by decide) (by decide) ?_
      rw [show own_row q s1 s2 s3 = (1 : Int32) from by first | (simp only [own_row, if_neg g1, if_pos c28_4]; done) | (simp only [own_row, if_neg g1, if_pos c28_4]; rfl)] at k
      exact k
    · refine own_icmpF X hx (pc' := 31) rfl (hb hby d_prog_5_method_17_code_28) (XT.ii_lt_f c28_4) ?_
      refine own_iinc X hx (v := (2 : Int32)) (Ls' := #[.val (.ref x0), .val (.int x1), .val (.ref x2), .val (.ref x3), .val (.int x4), .val (.int x5), .val (.int (2 : Int32)), .val (.int x7), .val (.int q)]) (pc' := 34) rfl (hb hby d_prog_5_method_17_code_31) rfl (by decide) rfl ?_
      refine own_goto X hx (pc' := 20) (hb hby d_prog_5_method_17_code_34) (by decide) (by decide) ?_
      refine own_iload X hx (pc' := 22) rfl (hb hby d_prog_5_method_17_code_20) rfl ?_
      refine own_aloadN X hx (pc' := 23) rfl (hb hby d_prog_5_method_17_code_22) rfl rfl ?_
      refine own_iload X hx (pc' := 25) rfl (hb hby d_prog_5_method_17_code_23) rfl ?_
      refine own_iconst X hx (v := (1 : Int32)) (pc' := 26) rfl (hb hby d_prog_5_method_17_code_25) rfl ?_
      refine own_iadd X hx (v := (3 : Int32)) (pc' := 27) rfl (hb hby d_prog_5_method_17_code_26) (by decide) ?_
      refine own_ldI X hx hZ eT A (k := 3) (by decide) (by decide) (by decide) (v := (.int s3)) hfr.2.2.1 (pc' := 28) rfl (hb hby d_prog_5_method_17_code_27) ?_
      by_cases c28_5 : q < s3
      · refine own_icmpT X hx (pc' := 37) (hb hby d_prog_5_method_17_code_28) (XT.ii_lt_t c28_5) (by decide) (by decide) ?_
        rw [show own_row q s1 s2 s3 = (2 : Int32) from by first | (simp only [own_row, if_neg g1, if_neg c28_4, if_pos c28_5]; done) | (simp only [own_row, if_neg g1, if_neg c28_4, if_pos c28_5]; rfl)] at k
        exact k
      · refine own_icmpF X hx (pc' := 31) rfl (hb hby d_prog_5_method_17_code_28) (XT.ii_lt_f c28_5) ?_
        refine own_iinc X hx (v := (3 : Int32)) (Ls' := #[.val (.ref x0), .val (.int x1), .val (.ref x2), .val (.ref x3), .val (.int x4), .val (.int x5), .val (.int (3 : Int32)), .val (.int x7), .val (.int q)]) (pc' := 34) rfl (hb hby d_prog_5_method_17_code_31) rfl (by decide) rfl ?_
        refine own_goto X hx (pc' := 20) (hb hby d_prog_5_method_17_code_34) (by decide) (by decide) ?_
        refine own_iload X hx (pc' := 22) rfl (hb hby d_prog_5_method_17_code_20) rfl ?_
        refine own_aloadN X hx (pc' := 23) rfl (hb hby d_prog_5_method_17_code_22) rfl rfl ?_
        refine own_iload X hx (pc' := 25) rfl (hb hby d_prog_5_method_17_code_23) rfl ?_
        refine own_iconst X hx (v := (1 : Int32)) (pc' := 26) rfl (hb hby d_prog_5_method_17_code_25) rfl ?_
        refine own_iadd X hx (v := (4 : Int32)) (pc' := 27) rfl (hb hby d_prog_5_method_17_code_26) (by decide) ?_
        refine own_ldI X hx hZ eT A (k := 4) (by decide) (by decide) (by decide) (v := (.int s4)) hfr.2.2.2 (pc' := 28) rfl (hb hby d_prog_5_method_17_code_27) ?_
        refine own_icmpT X hx (pc' := 37) (hb hby d_prog_5_method_17_code_28) (XT.ii_lt_t h4) (by decide) (by decide) ?_
        rw [show own_row q s1 s2 s3 = (3 : Int32) from by first | (simp only [own_row, if_neg g1, if_neg c28_4, if_neg c28_5]; done) | (simp only [own_row, if_neg g1, if_neg c28_4, if_neg c28_5]; rfl)] at k
        exact k
  · refine own_iload X hx (pc' := 22) rfl (hb hby d_prog_5_method_17_code_20) rfl ?_
    refine own_aloadN X hx (pc' := 23) rfl (hb hby d_prog_5_method_17_code_22) rfl rfl ?_
    refine own_iload X hx (pc' := 25) rfl (hb hby d_prog_5_method_17_code_23) rfl ?_
    refine own_iconst X hx (v := (1 : Int32)) (pc' := 26) rfl (hb hby d_prog_5_method_17_code_25) rfl ?_
    refine own_iadd X hx (v := (3 : Int32)) (pc' := 27) rfl (hb hby d_prog_5_method_17_code_26) (by decide) ?_
    refine own_ldI X hx hZ eT A (k := 3) (by decide) (by decide) (by decide) (v := (.int s3)) hfr.2.2.1 (pc' := 28) rfl (hb hby d_prog_5_method_17_code_27) ?_
    by_cases c28_6 : q < s3
    · refine own_icmpT X hx (pc' := 37) (hb hby d_prog_5_method_17_code_28) (XT.ii_lt_t c28_6) (by decide) (by decide) ?_
      rw [show own_row q s1 s2 s3 = (2 : Int32) from by first | (simp only [own_row, if_neg g1, if_neg g2, if_pos c28_6]; done) | (simp only [own_row, if_neg g1, if_neg g2, if_pos c28_6]; rfl)] at k
      exact k
    · refine own_icmpF X hx (pc' := 31) rfl (hb hby d_prog_5_method_17_code_28) (XT.ii_lt_f c28_6) ?_
      refine own_iinc X hx (v := (3 : Int32)) (Ls' := #[.val (.ref x0), .val (.int x1), .val (.ref x2), .val (.ref x3), .val (.int x4), .val (.int x5), .val (.int (3 : Int32)), .val (.int x7), .val (.int q)]) (pc' := 34) rfl (hb hby d_prog_5_method_17_code_31) rfl (by decide) rfl ?_
      refine own_goto X hx (pc' := 20) (hb hby d_prog_5_method_17_code_34) (by decide) (by decide) ?_
      refine own_iload X hx (pc' := 22) rfl (hb hby d_prog_5_method_17_code_20) rfl ?_
      refine own_aloadN X hx (pc' := 23) rfl (hb hby d_prog_5_method_17_code_22) rfl rfl ?_
      refine own_iload X hx (pc' := 25) rfl (hb hby d_prog_5_method_17_code_23) rfl ?_
      refine own_iconst X hx (v := (1 : Int32)) (pc' := 26) rfl (hb hby d_prog_5_method_17_code_25) rfl ?_
      refine own_iadd X hx (v := (4 : Int32)) (pc' := 27) rfl (hb hby d_prog_5_method_17_code_26) (by decide) ?_
      refine own_ldI X hx hZ eT A (k := 4) (by decide) (by decide) (by decide) (v := (.int s4)) hfr.2.2.2 (pc' := 28) rfl (hb hby d_prog_5_method_17_code_27) ?_
      refine own_icmpT X hx (pc' := 37) (hb hby d_prog_5_method_17_code_28) (XT.ii_lt_t h4) (by decide) (by decide) ?_
      rw [show own_row q s1 s2 s3 = (3 : Int32) from by first | (simp only [own_row, if_neg g1, if_neg g2, if_neg c28_6]; done) | (simp only [own_row, if_neg g1, if_neg g2, if_neg c28_6]; rfl)] at k
      exact k
  · refine own_iload X hx (pc' := 22) rfl (hb hby d_prog_5_method_17_code_20) rfl ?_
    refine own_aloadN X hx (pc' := 23) rfl (hb hby d_prog_5_method_17_code_22) rfl rfl ?_
    refine own_iload X hx (pc' := 25) rfl (hb hby d_prog_5_method_17_code_23) rfl ?_
    refine own_iconst X hx (v := (1 : Int32)) (pc' := 26) rfl (hb hby d_prog_5_method_17_code_25) rfl ?_
    refine own_iadd X hx (v := (4 : Int32)) (pc' := 27) rfl (hb hby d_prog_5_method_17_code_26) (by decide) ?_
    refine own_ldI X hx hZ eT A (k := 4) (by decide) (by decide) (by decide) (v := (.int s4)) hfr.2.2.2 (pc' := 28) rfl (hb hby d_prog_5_method_17_code_27) ?_
    refine own_icmpT X hx (pc' := 37) (hb hby d_prog_5_method_17_code_28) (XT.ii_lt_t h4) (by decide) (by decide) ?_
    rw [show own_row q s1 s2 s3 = (3 : Int32) from by first | (simp only [own_row, if_neg g1, if_neg g2, if_neg g3]; done) | (simp only [own_row, if_neg g1, if_neg g2, if_neg g3]; rfl)] at k
    exact k
def own_last (i s1 s2 s3 : Int32) (F : Nat) : Nat → Int32
  | 0 => i
  | n + 1 => own_row (Int32.ofNat (F + n)) s1 s2 s3
theorem ef_rm_take (m : MethodId) (a1 : Addr) (p2 : Int32) (a3 : Addr) (a4 : Addr) (p5 : Int32) (p6 : Int32) : entryFrame m #[(.ref a1), (.int p2), (.ref a3), (.ref a4), (.int p5), (.int p6)] 9 = mkF m 0 #[.val (.ref a1), .val (.int p2), .val (.ref a3), .val (.ref a4), .val (.int p5), .val (.int p6), .unset, .unset, .unset] [] := by first | (simp [entryFrame, mkF, argsToLocals, Value.category]; done) | rfl
def K_rm_take (b1 : Addr) (b2 : Addr) (b3 : Addr) (frs : Nat → Value) (fcol : Nat → Value) (s1 : Int32) (s2 : Int32) (s3 : Int32) (s4 : Int32) (cc : Int32) (F : Nat) (N : Nat) (v1 : Int32) (v2 : Int32) (v3 : Int32) (Z : State) (h0 : Heap) (n0 : Nat) (a1 : Addr) (p2 : Int32) (a3 : Addr) (a4 : Addr) (p5 : Int32) (p6 : Int32) (v : Option Value) (h : Heap) (L : List Loc) : Prop := v = some (.int (own_last p2 s1 s2 s3 F N)) ∧ Fr n0 L ∧ Keep h0 h [a1, b1, b2, b3] ∧ Exa Z h a1 "com/example/ferrule/ferrule/fusion/CellKernel$Batch" ∧ Fld Z h a1 "com/example/ferrule/ferrule/fusion/CellKernel$Batch" "rows" "[I" (.ref b1) ∧ Fld Z h a1 "com/example/ferrule/ferrule/fusion/CellKernel$Batch" "cols" "[I" (.ref b2) ∧ Fld Z h a1 "com/example/ferrule/ferrule/fusion/CellKernel$Batch" "places" "[I" (.ref b3) ∧ Fld Z h a1 "com/example/ferrule/ferrule/fusion/CellKernel$Batch" "count" "I" (.int p6) ∧ Fld Z h a1 "com/example/ferrule/ferrule/fusion/CellKernel$Batch" "run" "Z" (.int (0 : Int32)) ∧ Fld Z h a1 "com/example/ferrule/ferrule/fusion/CellKernel$Batch" "listed" "Z" (.int (1 : Int32)) ∧ own_Arr Z h b1 .int 128 (own_tab N (fun j => own_row (Int32.ofNat (F + j)) s1 s2 s3)) ∧ own_Arr Z h b2 .int 128 (own_tab N (fun j => cc + (1000 : Int32) * Int32.ofNat (F + j))) ∧ own_Arr Z h b3 .int 128 (own_tab N (fun j => Int32.ofNat (F + j)))
theorem d_prog_5_method_17_code_0 : decode prog_5_method_17_code 0 = .ok (.iload_n 1, 1) := by decide +kernel
theorem d_prog_5_method_17_code_1 : decode prog_5_method_17_code 1 = .ok (.istore 6, 2) := by decide +kernel
theorem d_prog_5_method_17_code_3 : decode prog_5_method_17_code 3 = .ok (.iconst 0, 1) := by decide +kernel
theorem d_prog_5_method_17_code_4 : decode prog_5_method_17_code 4 = .ok (.istore 7, 2) := by decide +kernel
theorem d_prog_5_method_17_code_6 : decode prog_5_method_17_code 6 = .ok (.iload 7, 2) := by decide +kernel
theorem d_prog_5_method_17_code_8 : decode prog_5_method_17_code 8 = .ok (.iload 5, 2) := by decide +kernel
theorem d_prog_5_method_17_code_10 : decode prog_5_method_17_code 10 = .ok (.if_icmp .ge 62, 3) := by decide +kernel
theorem d_prog_5_method_17_code_72 : decode prog_5_method_17_code 72 = .ok (.aload_n 0, 1) := by decide +kernel
theorem d_prog_5_method_17_code_73 : decode prog_5_method_17_code 73 = .ok (.iload 5, 2) := by decide +kernel
theorem d_prog_5_method_17_code_75 : decode prog_5_method_17_code 75 = .ok (.putfield 30, 3) := by decide +kernel
theorem d_prog_5_method_17_code_78 : decode prog_5_method_17_code 78 = .ok (.aload_n 0, 1) := by decide +kernel
theorem d_prog_5_method_17_code_79 : decode prog_5_method_17_code 79 = .ok (.iconst 0, 1) := by decide +kernel
theorem d_prog_5_method_17_code_80 : decode prog_5_method_17_code 80 = .ok (.putfield 33, 3) := by decide +kernel
theorem d_prog_5_method_17_code_83 : decode prog_5_method_17_code 83 = .ok (.aload_n 0, 1) := by decide +kernel
theorem d_prog_5_method_17_code_84 : decode prog_5_method_17_code 84 = .ok (.iconst 1, 1) := by decide +kernel
theorem d_prog_5_method_17_code_85 : decode prog_5_method_17_code 85 = .ok (.putfield 22, 3) := by decide +kernel
theorem d_prog_5_method_17_code_88 : decode prog_5_method_17_code 88 = .ok (.iload 6, 2) := by decide +kernel
theorem d_prog_5_method_17_code_90 : decode prog_5_method_17_code 90 = .ok (.ireturn, 1) := by decide +kernel
theorem d_prog_5_method_17_code_13 : decode prog_5_method_17_code 13 = .ok (.iload 4, 2) := by decide +kernel
theorem d_prog_5_method_17_code_15 : decode prog_5_method_17_code 15 = .ok (.iload 7, 2) := by decide +kernel
theorem d_prog_5_method_17_code_17 : decode prog_5_method_17_code 17 = .ok (.iadd, 1) := by decide +kernel
theorem d_prog_5_method_17_code_18 : decode prog_5_method_17_code 18 = .ok (.istore 8, 2) := by decide +kernel
theorem d_prog_5_method_17_code_37 : decode prog_5_method_17_code 37 = .ok (.aload_n 0, 1) := by decide +kernel
theorem d_prog_5_method_17_code_38 : decode prog_5_method_17_code 38 = .ok (.getfield 12, 3) := by decide +kernel
theorem d_prog_5_method_17_code_41 : decode prog_5_method_17_code 41 = .ok (.iload 7, 2) := by decide +kernel
theorem d_prog_5_method_17_code_43 : decode prog_5_method_17_code 43 = .ok (.iload 6, 2) := by decide +kernel
theorem d_prog_5_method_17_code_45 : decode prog_5_method_17_code 45 = .ok (.iastore, 1) := by decide +kernel
theorem d_prog_5_method_17_code_46 : decode prog_5_method_17_code 46 = .ok (.aload_n 0, 1) := by decide +kernel
theorem d_prog_5_method_17_code_47 : decode prog_5_method_17_code 47 = .ok (.getfield 16, 3) := by decide +kernel
theorem d_prog_5_method_17_code_50 : decode prog_5_method_17_code 50 = .ok (.iload 7, 2) := by decide +kernel
theorem d_prog_5_method_17_code_52 : decode prog_5_method_17_code 52 = .ok (.aload_n 3, 1) := by decide +kernel
theorem d_prog_5_method_17_code_53 : decode prog_5_method_17_code 53 = .ok (.iload 8, 2) := by decide +kernel
theorem d_prog_5_method_17_code_55 : decode prog_5_method_17_code 55 = .ok (.iaload, 1) := by decide +kernel
theorem d_prog_5_method_17_code_56 : decode prog_5_method_17_code 56 = .ok (.iastore, 1) := by decide +kernel
theorem d_prog_5_method_17_code_57 : decode prog_5_method_17_code 57 = .ok (.aload_n 0, 1) := by decide +kernel
theorem d_prog_5_method_17_code_58 : decode prog_5_method_17_code 58 = .ok (.getfield 19, 3) := by decide +kernel
theorem d_prog_5_method_17_code_61 : decode prog_5_method_17_code 61 = .ok (.iload 7, 2) := by decide +kernel
theorem d_prog_5_method_17_code_63 : decode prog_5_method_17_code 63 = .ok (.iload 8, 2) := by decide +kernel
theorem d_prog_5_method_17_code_65 : decode prog_5_method_17_code 65 = .ok (.iastore, 1) := by decide +kernel
theorem d_prog_5_method_17_code_66 : decode prog_5_method_17_code 66 = .ok (.iinc 7 1, 3) := by decide +kernel
theorem d_prog_5_method_17_code_69 : decode prog_5_method_17_code 69 = .ok (.goto (-63), 3) := by decide +kernel
set_option maxRecDepth 65536 in
set_option maxHeartbeats 40000000 in
theorem rm_take (l : Launch) (Z : State) (a0 : Array Value) (hw : ∀ d ∈ tables_1, d.before a0 Z = true) (ws : List Jvm.Cond) (b1 : Addr) (b2 : Addr) (b3 : Addr) (frs : Nat → Value) (fcol : Nat → Value) (s1 : Int32) (s2 : Int32) (s3 : Int32) (s4 : Int32) (cc : Int32) (F : Nat) (N : Nat) (v1 : Int32) (v2 : Int32) (v3 : Int32) (a1 : Addr) (p2 : Int32) (a3 : Addr) (a4 : Addr) (p5 : Int32) (p6 : Int32) (h0 : Heap) (n0 : Nat) (Z0 : n0 ≤ h0.size) (I0 : Exa Z h0 a1 "com/example/ferrule/ferrule/fusion/CellKernel$Batch") (I1 : Fld Z h0 a1 "com/example/ferrule/ferrule/fusion/CellKernel$Batch" "rows" "[I" (.ref b1)) (I2 : Fld Z h0 a1 "com/example/ferrule/ferrule/fusion/CellKernel$Batch" "cols" "[I" (.ref b2)) (I3 : Fld Z h0 a1 "com/example/ferrule/ferrule/fusion/CellKernel$Batch" "places" "[I" (.ref b3)) (I4 : Fld Z h0 a1 "com/example/ferrule/ferrule/fusion/CellKernel$Batch" "count" "I" (.int v1)) (I5 : Fld Z h0 a1 "com/example/ferrule/ferrule/fusion/CellKernel$Batch" "run" "Z" (.int v2)) (I6 : Fld Z h0 a1 "com/example/ferrule/ferrule/fusion/CellKernel$Batch" "listed" "Z" (.int v3)) (I7 : own_Arr Z h0 a3 .int 5 frs) (I8 : own_Arr Z h0 a4 .int 12 fcol) (I9 : own_Arr Z h0 b1 .int 128 (fun _ => .int (0 : Int32))) (I10 : own_Arr Z h0 b2 .int 128 (fun _ => .int (0 : Int32))) (I11 : own_Arr Z h0 b3 .int 128 (fun _ => .int (0 : Int32))) (ge_a1 : n0 ≤ a1) (ge_b1 : n0 ≤ b1) (ge_b2 : n0 ≤ b2) (ge_b3 : n0 ≤ b3) (ne_a1_b1 : a1 ≠ b1) (ne_a1_b2 : a1 ≠ b2) (ne_a1_b3 : a1 ≠ b3) (ne_a3_b1 : a3 ≠ b1) (ne_a3_b2 : a3 ≠ b2) (ne_a3_b3 : a3 ≠ b3) (ne_a4_b1 : a4 ≠ b1) (ne_a4_b2 : a4 ≠ b2) (ne_a4_b3 : a4 ≠ b3) (ne_b1_b2 : b1 ≠ b2) (ne_b1_b3 : b1 ≠ b3) (ne_b2_b3 : b2 ≠ b3) (ne_a3_a1 : a3 ≠ a1) (ne_a4_a1 : a4 ≠ a1) (hfr : frs 1 = .int s1 ∧ frs 2 = .int s2 ∧ frs 3 = .int s3 ∧ frs 4 = .int s4) (hcol : ∀ j, j < 12 → fcol j = .int (cc + (1000 : Int32) * Int32.ofNat j)) (hF : p5 = Int32.ofNat F) (hn : (N = 0 ∧ p6 = (0 : Int32)) ∨ (N = 1 ∧ p6 = (1 : Int32)) ∨ (N = 2 ∧ p6 = (2 : Int32)) ∨ (N = 3 ∧ p6 = (3 : Int32))) (hFN : F + N ≤ 12) (hlt : ∀ j, j < N → Int32.ofNat (F + j) < s4) (hge : own_ge p2 (Int32.ofNat F) s1 s2 s3) :
    MetFree l (⟨"com/example/ferrule/ferrule/fusion/CellKernel$Batch", "takeAcrossRows", "(I[I[III)I"⟩ : MethodName) (head1 (Jvm.Cond.code (⟨"com/example/ferrule/ferrule/fusion/CellKernel$Batch", "takeAcrossRows", "(I[I[III)I"⟩ : MethodName) prog_5_method_17_code 9 (some .int) :: ws) ({ frames := 0, cells := 0, slots := 0, locals := 0 } : Room)) (fun a U => a = #[(.ref a1), (.int p2), (.ref a3), (.ref a4), (.int p5), (.int p6)] ∧ Z.Warmed39 U.vm ∧ U.heap = h0) (fun _ _ _ _ _ => True) (fun _ U o U' => ∃ v L, o = .returned v ∧ (K_rm_take b1 b2 b3 frs fcol s1 s2 s3 s4 cc F N v1 v2 v3 Z h0 n0 a1 p2 a3 a4 p5 p6) v U'.heap L ∧ FrameEnd U o U' L ({ frames := 0, cells := 0, slots := 0, locals := 0 } : Room).cells ({ frames := 0, cells := 0, slots := 0, locals := 0 } : Room).slots) := by
  refine own_body (plainFor_of_name pn_com_example_ferrule_ferrule_fusion_CellKernel_Batch) ?_
  intro p e s m below meth c s₁ hx hby hml hown hnm hret hlk hZ X0 e0
  have hown : s.vm.findClass "com/example/ferrule/ferrule/fusion/CellKernel$Batch" = some m.cls := hown
  have N0 := Fr.nil n0
  rw [ef_rm_take m a1 p2 a3 a4 p5 p6]
  have K0 := Keep.refl h0 [a1, b1, b2, b3]
  subst hF
  rcases hn with ⟨rfl, rfl⟩ | ⟨rfl, rfl⟩ | ⟨rfl, rfl⟩ | ⟨rfl, rfl⟩
  · refine own_iloadN X0 hx (pc' := 1) rfl (hb hby d_prog_5_method_17_code_0) rfl ?_
    refine own_istore X0 hx (Ls' := #[.val (.ref a1), .val (.int p2), .val (.ref a3), .val (.ref a4), .val (.int (Int32.ofNat F)), .val (.int (0 : Int32)), .val (.int p2), .unset, .unset]) (pc' := 3) rfl (hb hby d_prog_5_method_17_code_1) rfl ?_
    refine own_iconst X0 hx (v := (0 : Int32)) (pc' := 4) rfl (hb hby d_prog_5_method_17_code_3) rfl ?_
    refine own_istore X0 hx (Ls' := #[.val (.ref a1), .val (.int p2), .val (.ref a3), .val (.ref a4), .val (.int (Int32.ofNat F)), .val (.int (0 : Int32)), .val (.int p2), .val (.int (0 : Int32)), .unset]) (pc' := 6) rfl (hb hby d_prog_5_method_17_code_4) rfl ?_
    refine own_iload X0 hx (pc' := 8) rfl (hb hby d_prog_5_method_17_code_6) rfl ?_
    refine own_iload X0 hx (pc' := 10) rfl (hb hby d_prog_5_method_17_code_8) rfl ?_
    refine own_icmpT X0 hx (pc' := 72) (hb hby d_prog_5_method_17_code_10) (XT.ii_ge_t (by decide)) (by decide) (by decide) ?_
    refine own_aloadN X0 hx (pc' := 73) rfl (hb hby d_prog_5_method_17_code_72) rfl rfl ?_
    refine own_iload X0 hx (pc' := 75) rfl (hb hby d_prog_5_method_17_code_73) rfl ?_
    refine own_putF X0 hx hZ hown (host := "") (Or.inl (hw _ (List.mem_of_getElem? (i := 26) rfl))) Via.refl e0 I4 I0 (Or.inl (hw _ (List.mem_of_getElem? (i := 27) rfl))) (hw _ (List.mem_of_getElem? (i := 3) rfl)) (ty := .int) (by decide) rfl rfl (pc' := 78) rfl (hb hby d_prog_5_method_17_code_75) ?_
    intro T1 h1 X1 e1 W1
    have F2 := Fld.same W1 I4
    have Siz_3 := own_sizWr W1 Z0
    have Exa_4 := Exa.wr W1 I0
    have Fld_5 := Fld.other W1 I1 (Or.inr (slot_ne (Or.inr (hw _ (List.mem_of_getElem? (i := 12) rfl))) (Or.inl (hw _ (List.mem_of_getElem? (i := 27) rfl))) (by decide) (t := (.array .int)) (t' := .int) (by decide) (by decide)))
    have Fld_6 := Fld.other W1 I2 (Or.inr (slot_ne (Or.inr (hw _ (List.mem_of_getElem? (i := 14) rfl))) (Or.inl (hw _ (List.mem_of_getElem? (i := 27) rfl))) (by decide) (t := (.array .int)) (t' := .int) (by decide) (by decide)))
    have Fld_7 := Fld.other W1 I3 (Or.inr (slot_ne (Or.inr (hw _ (List.mem_of_getElem? (i := 16) rfl))) (Or.inl (hw _ (List.mem_of_getElem? (i := 27) rfl))) (by decide) (t := (.array .int)) (t' := .int) (by decide) (by decide)))
    have Fld_9 := Fld.other W1 I5 (Or.inr (slot_ne (Or.inl (hw _ (List.mem_of_getElem? (i := 29) rfl))) (Or.inl (hw _ (List.mem_of_getElem? (i := 27) rfl))) (by decide) (t := .boolean) (t' := .int) (by decide) (by decide)))
    have Fld_10 := Fld.other W1 I6 (Or.inr (slot_ne (Or.inl (hw _ (List.mem_of_getElem? (i := 18) rfl))) (Or.inl (hw _ (List.mem_of_getElem? (i := 27) rfl))) (by decide) (t := .boolean) (t' := .int) (by decide) (by decide)))
    have Arr_11 := own_Arr.other W1 I7 ne_a3_a1
    have Arr_12 := own_Arr.other W1 I8 ne_a4_a1
    have Arr_13 := own_Arr.other W1 I9 (Ne.symm ne_a1_b1)
    have Arr_14 := own_Arr.other W1 I10 (Ne.symm ne_a1_b2)
    have Arr_15 := own_Arr.other W1 I11 (Ne.symm ne_a1_b3)
    have N1 := Fr.snoc X1 N0 ge_a1
    have K1 := Keep.wr K0 W1 (Or.inl (by simp))
    refine own_aloadN X1 hx (pc' := 79) rfl (hb hby d_prog_5_method_17_code_78) rfl rfl ?_
    refine own_iconst X1 hx (v := (0 : Int32)) (pc' := 80) rfl (hb hby d_prog_5_method_17_code_79) rfl ?_
    refine own_putF X1 hx hZ hown (host := "") (Or.inl (hw _ (List.mem_of_getElem? (i := 28) rfl))) Via.refl e1 Fld_9 Exa_4 (Or.inl (hw _ (List.mem_of_getElem? (i := 29) rfl))) (hw _ (List.mem_of_getElem? (i := 3) rfl)) (ty := .boolean) (by decide) rfl (by decide) (pc' := 83) rfl (hb hby d_prog_5_method_17_code_80) ?_
    intro T16 h16 X16 e16 W16
    have F17 := Fld.same W16 Fld_9
    have Siz_18 := own_sizWr W16 Siz_3
    have Exa_19 := Exa.wr W16 Exa_4
    have Fld_20 := Fld.other W16 Fld_5 (Or.inr (slot_ne (Or.inr (hw _ (List.mem_of_getElem? (i := 12) rfl))) (Or.inl (hw _ (List.mem_of_getElem? (i := 29) rfl))) (by decide) (t := (.array .int)) (t' := .boolean) (by decide) (by decide)))
    have Fld_21 := Fld.other W16 Fld_6 (Or.inr (slot_ne (Or.inr (hw _ (List.mem_of_getElem? (i := 14) rfl))) (Or.inl (hw _ (List.mem_of_getElem? (i := 29) rfl))) (by decide) (t := (.array .int)) (t' := .boolean) (by decide) (by decide)))
    have Fld_22 := Fld.other W16 Fld_7 (Or.inr (slot_ne (Or.inr (hw _ (List.mem_of_getElem? (i := 16) rfl))) (Or.inl (hw _ (List.mem_of_getElem? (i := 29) rfl))) (by decide) (t := (.array .int)) (t' := .boolean) (by decide) (by decide)))
    have Fld_24 := Fld.other W16 Fld_10 (Or.inr (slot_ne (Or.inl (hw _ (List.mem_of_getElem? (i := 18) rfl))) (Or.inl (hw _ (List.mem_of_getElem? (i := 29) rfl))) (by decide) (t := .boolean) (t' := .boolean) (by decide) (by decide)))
    have Arr_25 := own_Arr.other W16 Arr_11 ne_a3_a1
    have Arr_26 := own_Arr.other W16 Arr_12 ne_a4_a1
    have Arr_27 := own_Arr.other W16 Arr_13 (Ne.symm ne_a1_b1)
    have Arr_28 := own_Arr.other W16 Arr_14 (Ne.symm ne_a1_b2)
    have Arr_29 := own_Arr.other W16 Arr_15 (Ne.symm ne_a1_b3)
    have Fld_30 := Fld.other W16 F2 (Or.inr (slot_ne (Or.inl (hw _ (List.mem_of_getElem? (i := 27) rfl))) (Or.inl (hw _ (List.mem_of_getElem? (i := 29) rfl))) (by decide) (t := .int) (t' := .boolean) (by decide) (by decide)))
    have N16 := Fr.snoc X16 N1 ge_a1
    have K16 := Keep.wr K1 W16 (Or.inl (by simp))
    refine own_aloadN X16 hx (pc' := 84) rfl (hb hby d_prog_5_method_17_code_83) rfl rfl ?_
    refine own_iconst X16 hx (v := (1 : Int32)) (pc' := 85) rfl (hb hby d_prog_5_method_17_code_84) rfl ?_
    refine own_putF X16 hx hZ hown (host := "") (Or.inl (hw _ (List.mem_of_getElem? (i := 17) rfl))) Via.refl e16 Fld_24 Exa_19 (Or.inl (hw _ (List.mem_of_getElem? (i := 18) rfl))) (hw _ (List.mem_of_getElem? (i := 3) rfl)) (ty := .boolean) (by decide) rfl (by decide) (pc' := 88) rfl (hb hby d_prog_5_method_17_code_85) ?_
    intro T31 h31 X31 e31 W31
    have F32 := Fld.same W31 Fld_24
    have Siz_33 := own_sizWr W31 Siz_18
    have Exa_34 := Exa.wr W31 Exa_19
    have Fld_35 := Fld.other W31 Fld_20 (Or.inr (slot_ne (Or.inr (hw _ (List.mem_of_getElem? (i := 12) rfl))) (Or.inl (hw _ (List.mem_of_getElem? (i := 18) rfl))) (by decide) (t := (.array .int)) (t' := .boolean) (by decide) (by decide)))
    have Fld_36 := Fld.other W31 Fld_21 (Or.inr (slot_ne (Or.inr (hw _ (List.mem_of_getElem? (i := 14) rfl))) (Or.inl (hw _ (List.mem_of_getElem? (i := 18) rfl))) (by decide) (t := (.array .int)) (t' := .boolean) (by decide) (by decide)))
    have Fld_37 := Fld.other W31 Fld_22 (Or.inr (slot_ne (Or.inr (hw _ (List.mem_of_getElem? (i := 16) rfl))) (Or.inl (hw _ (List.mem_of_getElem? (i := 18) rfl))) (by decide) (t := (.array .int)) (t' := .boolean) (by decide) (by decide)))
    have Arr_39 := own_Arr.other W31 Arr_25 ne_a3_a1
    have Arr_40 := own_Arr.other W31 Arr_26 ne_a4_a1
    have Arr_41 := own_Arr.other W31 Arr_27 (Ne.symm ne_a1_b1)
    have Arr_42 := own_Arr.other W31 Arr_28 (Ne.symm ne_a1_b2)
    have Arr_43 := own_Arr.other W31 Arr_29 (Ne.symm ne_a1_b3)
    have Fld_44 := Fld.other W31 Fld_30 (Or.inr (slot_ne (Or.inl (hw _ (List.mem_of_getElem? (i := 27) rfl))) (Or.inl (hw _ (List.mem_of_getElem? (i := 18) rfl))) (by decide) (t := .int) (t' := .boolean) (by decide) (by decide)))
    have Fld_45 := Fld.other W31 F17 (Or.inr (slot_ne (Or.inl (hw _ (List.mem_of_getElem? (i := 29) rfl))) (Or.inl (hw _ (List.mem_of_getElem? (i := 18) rfl))) (by decide) (t := .boolean) (t' := .boolean) (by decide) (by decide)))
    have N31 := Fr.snoc X31 N16 ge_a1
    have K31 := Keep.wr K16 W31 (Or.inl (by simp))
    refine own_iload X31 hx (pc' := 90) rfl (hb hby d_prog_5_method_17_code_88) rfl ?_
    refine own_iret X31 hx hlk hret (hb hby d_prog_5_method_17_code_90) (by decide) (by decide) ?_
    rw [e31]
    exact ⟨rfl, N31, K31, Exa_34, Fld_35, Fld_36, Fld_37, Fld_44, Fld_45, F32, (own_Arr.congr Arr_41 (fun j _ => (own_t0 (fun j => own_row (Int32.ofNat (F + j)) s1 s2 s3)) j)), (own_Arr.congr Arr_42 (fun j _ => (own_t0 (fun j => cc + (1000 : Int32) * Int32.ofNat (F + j))) j)), (own_Arr.congr Arr_43 (fun j _ => (own_t0 (fun j => Int32.ofNat (F + j))) j))⟩
  · refine own_iloadN X0 hx (pc' := 1) rfl (hb hby d_prog_5_method_17_code_0) rfl ?_
    refine own_istore X0 hx (Ls' := #[.val (.ref a1), .val (.int p2), .val (.ref a3), .val (.ref a4), .val (.int (Int32.ofNat F)), .val (.int (1 : Int32)), .val (.int p2), .unset, .unset]) (pc' := 3) rfl (hb hby d_prog_5_method_17_code_1) rfl ?_
    refine own_iconst X0 hx (v := (0 : Int32)) (pc' := 4) rfl (hb hby d_prog_5_method_17_code_3) rfl ?_
    refine own_istore X0 hx (Ls' := #[.val (.ref a1), .val (.int p2), .val (.ref a3), .val (.ref a4), .val (.int (Int32.ofNat F)), .val (.int (1 : Int32)), .val (.int p2), .val (.int (0 : Int32)), .unset]) (pc' := 6) rfl (hb hby d_prog_5_method_17_code_4) rfl ?_
    refine own_iload X0 hx (pc' := 8) rfl (hb hby d_prog_5_method_17_code_6) rfl ?_
    refine own_iload X0 hx (pc' := 10) rfl (hb hby d_prog_5_method_17_code_8) rfl ?_
    refine own_icmpF X0 hx (pc' := 13) rfl (hb hby d_prog_5_method_17_code_10) (XT.ii_ge_f (by decide)) ?_
    refine own_iload X0 hx (pc' := 15) rfl (hb hby d_prog_5_method_17_code_13) rfl ?_
    refine own_iload X0 hx (pc' := 17) rfl (hb hby d_prog_5_method_17_code_15) rfl ?_
    refine own_iadd X0 hx (v := (Int32.ofNat (F + 0))) (pc' := 18) rfl (hb hby d_prog_5_method_17_code_17) (own_addn F 0) ?_
    refine own_istore X0 hx (Ls' := #[.val (.ref a1), .val (.int p2), .val (.ref a3), .val (.ref a4), .val (.int (Int32.ofNat F)), .val (.int (1 : Int32)), .val (.int p2), .val (.int (0 : Int32)), .val (.int (Int32.ofNat (F + 0)))]) (pc' := 20) rfl (hb hby d_prog_5_method_17_code_18) rfl ?_
    refine own_while X0 hx hby hZ e0 I7 hfr hge (hlt 0 (by decide)) ?_
    refine own_aloadN X0 hx (pc' := 38) rfl (hb hby d_prog_5_method_17_code_37) rfl rfl ?_
    refine own_getF X0 hx hZ hown (host := "") (Or.inl (hw _ (List.mem_of_getElem? (i := 11) rfl))) Via.refl e0 I1 (pc' := 41) rfl (hb hby d_prog_5_method_17_code_38) ?_
    intro T46 X46 e46
    refine own_iload X46 hx (pc' := 43) rfl (hb hby d_prog_5_method_17_code_41) rfl ?_
    refine own_iload X46 hx (pc' := 45) rfl (hb hby d_prog_5_method_17_code_43) rfl ?_
    refine own_stI X46 hx hZ e46 I9 (k := 0) (by decide) (by decide) (by decide) (pc' := 46) rfl (hb hby d_prog_5_method_17_code_45) ?_
    intro T47 h47 X47 e47 W47 A47
    have Siz_48 := own_sizWr W47 Z0
    have Exa_49 := Exa.wr W47 I0
    have Fld_50 := Fld.other W47 I1 (Or.inl ne_a1_b1)
    have Fld_51 := Fld.other W47 I2 (Or.inl ne_a1_b1)
    have Fld_52 := Fld.other W47 I3 (Or.inl ne_a1_b1)
    have Fld_53 := Fld.other W47 I4 (Or.inl ne_a1_b1)
    have Fld_54 := Fld.other W47 I5 (Or.inl ne_a1_b1)
    have Fld_55 := Fld.other W47 I6 (Or.inl ne_a1_b1)
    have Arr_56 := own_Arr.other W47 I7 ne_a3_b1
    have Arr_57 := own_Arr.other W47 I8 ne_a4_b1
    have Arr_59 := own_Arr.other W47 I10 (Ne.symm ne_b1_b2)
    have Arr_60 := own_Arr.other W47 I11 (Ne.symm ne_b1_b3)
    have N47 := Fr.snoc X47 N0 ge_b1
    have K47 := Keep.wr K0 W47 (Or.inl (by simp))
    refine own_aloadN X47 hx (pc' := 47) rfl (hb hby d_prog_5_method_17_code_46) rfl rfl ?_
    refine own_getF X47 hx hZ hown (host := "") (Or.inl (hw _ (List.mem_of_getElem? (i := 13) rfl))) Via.refl e47 Fld_51 (pc' := 50) rfl (hb hby d_prog_5_method_17_code_47) ?_
    intro T61 X61 e61
    refine own_iload X61 hx (pc' := 52) rfl (hb hby d_prog_5_method_17_code_50) rfl ?_
    refine own_aloadN X61 hx (pc' := 53) rfl (hb hby d_prog_5_method_17_code_52) rfl rfl ?_
    refine own_iload X61 hx (pc' := 55) rfl (hb hby d_prog_5_method_17_code_53) rfl ?_
    refine own_ldI X61 hx hZ e61 Arr_57 (k := (F + 0)) (own_ix (by omega)).1 (own_ix (by omega)).2 (by omega) (v := (.int (cc + (1000 : Int32) * Int32.ofNat (F + 0)))) (hcol (F + 0) (by omega)) (pc' := 56) rfl (hb hby d_prog_5_method_17_code_55) ?_
    refine own_stI X61 hx hZ e61 Arr_59 (k := 0) (by decide) (by decide) (by decide) (pc' := 57) rfl (hb hby d_prog_5_method_17_code_56) ?_
    intro T62 h62 X62 e62 W62 A62
    have Siz_63 := own_sizWr W62 Siz_48
    have Exa_64 := Exa.wr W62 Exa_49
    have Fld_65 := Fld.other W62 Fld_50 (Or.inl ne_a1_b2)
    have Fld_66 := Fld.other W62 Fld_51 (Or.inl ne_a1_b2)
    have Fld_67 := Fld.other W62 Fld_52 (Or.inl ne_a1_b2)
    have Fld_68 := Fld.other W62 Fld_53 (Or.inl ne_a1_b2)
    have Fld_69 := Fld.other W62 Fld_54 (Or.inl ne_a1_b2)
    have Fld_70 := Fld.other W62 Fld_55 (Or.inl ne_a1_b2)
    have Arr_71 := own_Arr.other W62 Arr_56 ne_a3_b2
    have Arr_72 := own_Arr.other W62 Arr_57 ne_a4_b2
    have Arr_74 := own_Arr.other W62 Arr_60 (Ne.symm ne_b2_b3)
    have Arr_75 := own_Arr.other W62 A47 ne_b1_b2
    have N62 := Fr.snoc X62 N47 ge_b2
    have K62 := Keep.wr K47 W62 (Or.inl (by simp))
    refine own_aloadN X62 hx (pc' := 58) rfl (hb hby d_prog_5_method_17_code_57) rfl rfl ?_
    refine own_getF X62 hx hZ hown (host := "") (Or.inl (hw _ (List.mem_of_getElem? (i := 15) rfl))) Via.refl e62 Fld_67 (pc' := 61) rfl (hb hby d_prog_5_method_17_code_58) ?_
    intro T76 X76 e76
    refine own_iload X76 hx (pc' := 63) rfl (hb hby d_prog_5_method_17_code_61) rfl ?_
    refine own_iload X76 hx (pc' := 65) rfl (hb hby d_prog_5_method_17_code_63) rfl ?_
    refine own_stI X76 hx hZ e76 Arr_74 (k := 0) (by decide) (by decide) (by decide) (pc' := 66) rfl (hb hby d_prog_5_method_17_code_65) ?_
    intro T77 h77 X77 e77 W77 A77
    have Siz_78 := own_sizWr W77 Siz_63
    have Exa_79 := Exa.wr W77 Exa_64
    have Fld_80 := Fld.other W77 Fld_65 (Or.inl ne_a1_b3)
    have Fld_81 := Fld.other W77 Fld_66 (Or.inl ne_a1_b3)
    have Fld_82 := Fld.other W77 Fld_67 (Or.inl ne_a1_b3)
    have Fld_83 := Fld.other W77 Fld_68 (Or.inl ne_a1_b3)
    have Fld_84 := Fld.other W77 Fld_69 (Or.inl ne_a1_b3)
    have Fld_85 := Fld.other W77 Fld_70 (Or.inl ne_a1_b3)
    have Arr_86 := own_Arr.other W77 Arr_71 ne_a3_b3
    have Arr_87 := own_Arr.other W77 Arr_72 ne_a4_b3
    have Arr_89 := own_Arr.other W77 Arr_75 ne_b1_b3
    have Arr_90 := own_Arr.other W77 A62 ne_b2_b3
    have N77 := Fr.snoc X77 N62 ge_b3
    have K77 := Keep.wr K62 W77 (Or.inl (by simp))
    refine own_iinc X77 hx (v := (1 : Int32)) (Ls' := #[.val (.ref a1), .val (.int p2), .val (.ref a3), .val (.ref a4), .val (.int (Int32.ofNat F)), .val (.int (1 : Int32)), .val (.int (own_row (Int32.ofNat (F + 0)) s1 s2 s3)), .val (.int (1 : Int32)), .val (.int (Int32.ofNat (F + 0)))]) (pc' := 69) rfl (hb hby d_prog_5_method_17_code_66) rfl (by decide) rfl ?_
    refine own_goto X77 hx (pc' := 6) (hb hby d_prog_5_method_17_code_69) (by decide) (by decide) ?_
    refine own_iload X77 hx (pc' := 8) rfl (hb hby d_prog_5_method_17_code_6) rfl ?_
    refine own_iload X77 hx (pc' := 10) rfl (hb hby d_prog_5_method_17_code_8) rfl ?_
    refine own_icmpT X77 hx (pc' := 72) (hb hby d_prog_5_method_17_code_10) (XT.ii_ge_t (by decide)) (by decide) (by decide) ?_
    refine own_aloadN X77 hx (pc' := 73) rfl (hb hby d_prog_5_method_17_code_72) rfl rfl ?_
    refine own_iload X77 hx (pc' := 75) rfl (hb hby d_prog_5_method_17_code_73) rfl ?_
    refine own_putF X77 hx hZ hown (host := "") (Or.inl (hw _ (List.mem_of_getElem? (i := 26) rfl))) Via.refl e77 Fld_83 Exa_79 (Or.inl (hw _ (List.mem_of_getElem? (i := 27) rfl))) (hw _ (List.mem_of_getElem? (i := 3) rfl)) (ty := .int) (by decide) rfl rfl (pc' := 78) rfl (hb hby d_prog_5_method_17_code_75) ?_
    intro T91 h91 X91 e91 W91
    have F92 := Fld.same W91 Fld_83
    have Siz_93 := own_sizWr W91 Siz_78
    have Exa_94 := Exa.wr W91 Exa_79
    have Fld_95 := Fld.other W91 Fld_80 (Or.inr (slot_ne (Or.inr (hw _ (List.mem_of_getElem? (i := 12) rfl))) (Or.inl (hw _ (List.mem_of_getElem? (i := 27) rfl))) (by decide) (t := (.array .int)) (t' := .int) (by decide) (by decide)))
    have Fld_96 := Fld.other W91 Fld_81 (Or.inr (slot_ne (Or.inr (hw _ (List.mem_of_getElem? (i := 14) rfl))) (Or.inl (hw _ (List.mem_of_getElem? (i := 27) rfl))) (by decide) (t := (.array .int)) (t' := .int) (by decide) (by decide)))
    have Fld_97 := Fld.other W91 Fld_82 (Or.inr (slot_ne (Or.inr (hw _ (List.mem_of_getElem? (i := 16) rfl))) (Or.inl (hw _ (List.mem_of_getElem? (i := 27) rfl))) (by decide) (t := (.array .int)) (t' := .int) (by decide) (by decide)))
    have Fld_99 := Fld.other W91 Fld_84 (Or.inr (slot_ne (Or.inl (hw _ (List.mem_of_getElem? (i := 29) rfl))) (Or.inl (hw _ (List.mem_of_getElem? (i := 27) rfl))) (by decide) (t := .boolean) (t' := .int) (by decide) (by decide)))
    have Fld_100 := Fld.other W91 Fld_85 (Or.inr (slot_ne (Or.inl (hw _ (List.mem_of_getElem? (i := 18) rfl))) (Or.inl (hw _ (List.mem_of_getElem? (i := 27) rfl))) (by decide) (t := .boolean) (t' := .int) (by decide) (by decide)))
    have Arr_101 := own_Arr.other W91 Arr_86 ne_a3_a1
    have Arr_102 := own_Arr.other W91 Arr_87 ne_a4_a1
    have Arr_103 := own_Arr.other W91 Arr_89 (Ne.symm ne_a1_b1)
    have Arr_104 := own_Arr.other W91 Arr_90 (Ne.symm ne_a1_b2)
    have Arr_105 := own_Arr.other W91 A77 (Ne.symm ne_a1_b3)
    have N91 := Fr.snoc X91 N77 ge_a1
    have K91 := Keep.wr K77 W91 (Or.inl (by simp))
    refine own_aloadN X91 hx (pc' := 79) rfl (hb hby d_prog_5_method_17_code_78) rfl rfl ?_
    refine own_iconst X91 hx (v := (0 : Int32)) (pc' := 80) rfl (hb hby d_prog_5_method_17_code_79) rfl ?_
    refine own_putF X91 hx hZ hown (host := "") (Or.inl (hw _ (List.mem_of_getElem? (i := 28) rfl))) Via.refl e91 Fld_99 Exa_94 (Or.inl (hw _ (List.mem_of_getElem? (i := 29) rfl))) (hw _ (List.mem_of_getElem? (i := 3) rfl)) (ty := .boolean) (by decide) rfl (by decide) (pc' := 83) rfl (hb hby d_prog_5_method_17_code_80) ?_
    intro T106 h106 X106 e106 W106
    have F107 := Fld.same W106 Fld_99
    have Siz_108 := own_sizWr W106 Siz_93
    have Exa_109 := Exa.wr W106 Exa_94
    have Fld_110 := Fld.other W106 Fld_95 (Or.inr (slot_ne (Or.inr (hw _ (List.mem_of_getElem? (i := 12) rfl))) (Or.inl (hw _ (List.mem_of_getElem? (i := 29) rfl))) (by decide) (t := (.array .int)) (t' := .boolean) (by decide) (by decide)))
    have Fld_111 := Fld.other W106 Fld_96 (Or.inr (slot_ne (Or.inr (hw _ (List.mem_of_getElem? (i := 14) rfl))) (Or.inl (hw _ (List.mem_of_getElem? (i := 29) rfl))) (by decide) (t := (.array .int)) (t' := .boolean) (by decide) (by decide)))
    have Fld_112 := Fld.other W106 Fld_97 (Or.inr (slot_ne (Or.inr (hw _ (List.mem_of_getElem? (i := 16) rfl))) (Or.inl (hw _ (List.mem_of_getElem? (i := 29) rfl))) (by decide) (t := (.array .int)) (t' := .boolean) (by decide) (by decide)))
    have Fld_114 := Fld.other W106 Fld_100 (Or.inr (slot_ne (Or.inl (hw _ (List.mem_of_getElem? (i := 18) rfl))) (Or.inl (hw _ (List.mem_of_getElem? (i := 29) rfl))) (by decide) (t := .boolean) (t' := .boolean) (by decide) (by decide)))
    have Arr_115 := own_Arr.other W106 Arr_101 ne_a3_a1
    have Arr_116 := own_Arr.other W106 Arr_102 ne_a4_a1
    have Arr_117 := own_Arr.other W106 Arr_103 (Ne.symm ne_a1_b1)
    have Arr_118 := own_Arr.other W106 Arr_104 (Ne.symm ne_a1_b2)
    have Arr_119 := own_Arr.other W106 Arr_105 (Ne.symm ne_a1_b3)
    have Fld_120 := Fld.other W106 F92 (Or.inr (slot_ne (Or.inl (hw _ (List.mem_of_getElem? (i := 27) rfl))) (Or.inl (hw _ (List.mem_of_getElem? (i := 29) rfl))) (by decide) (t := .int) (t' := .boolean) (by decide) (by decide)))
    have N106 := Fr.snoc X106 N91 ge_a1
    have K106 := Keep.wr K91 W106 (Or.inl (by simp))
    refine own_aloadN X106 hx (pc' := 84) rfl (hb hby d_prog_5_method_17_code_83) rfl rfl ?_
    refine own_iconst X106 hx (v := (1 : Int32)) (pc' := 85) rfl (hb hby d_prog_5_method_17_code_84) rfl ?_
    refine own_putF X106 hx hZ hown (host := "") (Or.inl (hw _ (List.mem_of_getElem? (i := 17) rfl))) Via.refl e106 Fld_114 Exa_109 (Or.inl (hw _ (List.mem_of_getElem? (i := 18) rfl))) (hw _ (List.mem_of_getElem? (i := 3) rfl)) (ty := .boolean) (by decide) rfl (by decide) (pc' := 88) rfl (hb hby d_prog_5_method_17_code_85) ?_
    intro T121 h121 X121 e121 W121
    have F122 := Fld.same W121 Fld_114
    have Siz_123 := own_sizWr W121 Siz_108
    have Exa_124 := Exa.wr W121 Exa_109
    have Fld_125 := Fld.other W121 Fld_110 (Or.inr (slot_ne (Or.inr (hw _ (List.mem_of_getElem? (i := 12) rfl))) (Or.inl (hw _ (List.mem_of_getElem? (i := 18) rfl))) (by decide) (t := (.array .int)) (t' := .boolean) (by decide) (by decide)))
    have Fld_126 := Fld.other W121 Fld_111 (Or.inr (slot_ne (Or.inr (hw _ (List.mem_of_getElem? (i := 14) rfl))) (Or.inl (hw _ (List.mem_of_getElem? (i := 18) rfl))) (by decide) (t := (.array .int)) (t' := .boolean) (by decide) (by decide)))
    have Fld_127 := Fld.other W121 Fld_112 (Or.inr (slot_ne (Or.inr (hw _ (List.mem_of_getElem? (i := 16) rfl))) (Or.inl (hw _ (List.mem_of_getElem? (i := 18) rfl))) (by decide) (t := (.array .int)) (t' := .boolean) (by decide) (by decide)))
    have Arr_129 := own_Arr.other W121 Arr_115 ne_a3_a1
    have Arr_130 := own_Arr.other W121 Arr_116 ne_a4_a1
    have Arr_131 := own_Arr.other W121 Arr_117 (Ne.symm ne_a1_b1)
    have Arr_132 := own_Arr.other W121 Arr_118 (Ne.symm ne_a1_b2)
    have Arr_133 := own_Arr.other W121 Arr_119 (Ne.symm ne_a1_b3)
    have Fld_134 := Fld.other W121 Fld_120 (Or.inr (slot_ne (Or.inl (hw _ (List.mem_of_getElem? (i := 27) rfl))) (Or.inl (hw _ (List.mem_of_getElem? (i := 18) rfl))) (by decide) (t := .int) (t' := .boolean) (by decide) (by decide)))
    have Fld_135 := Fld.other W121 F107 (Or.inr (slot_ne (Or.inl (hw _ (List.mem_of_getElem? (i := 29) rfl))) (Or.inl (hw _ (List.mem_of_getElem? (i := 18) rfl))) (by decide) (t := .boolean) (t' := .boolean) (by decide) (by decide)))
    have N121 := Fr.snoc X121 N106 ge_a1
    have K121 := Keep.wr K106 W121 (Or.inl (by simp))
    refine own_iload X121 hx (pc' := 90) rfl (hb hby d_prog_5_method_17_code_88) rfl ?_
    refine own_iret X121 hx hlk hret (hb hby d_prog_5_method_17_code_90) (by decide) (by decide) ?_
    rw [e121]
    exact ⟨rfl, N121, K121, Exa_124, Fld_125, Fld_126, Fld_127, Fld_134, Fld_135, F122, (own_Arr.congr Arr_131 (fun j _ => (own_ts (g := (fun j => own_row (Int32.ofNat (F + j)) s1 s2 s3)) (k := 0) (own_t0 (fun j => own_row (Int32.ofNat (F + j)) s1 s2 s3))) j)), (own_Arr.congr Arr_132 (fun j _ => (own_ts (g := (fun j => cc + (1000 : Int32) * Int32.ofNat (F + j))) (k := 0) (own_t0 (fun j => cc + (1000 : Int32) * Int32.ofNat (F + j)))) j)), (own_Arr.congr Arr_133 (fun j _ => (own_ts (g := (fun j => Int32.ofNat (F + j))) (k := 0) (own_t0 (fun j => Int32.ofNat (F + j)))) j))⟩
  · refine own_iloadN X0 hx (pc' := 1) rfl (hb hby d_prog_5_method_17_code_0) rfl ?_
    refine own_istore X0 hx (Ls' := #[.val (.ref a1), .val (.int p2), .val (.ref a3), .val (.ref a4), .val (.int (Int32.ofNat F)), .val (.int (2 : Int32)), .val (.int p2), .unset, .unset]) (pc' := 3) rfl (hb hby d_prog_5_method_17_code_1) rfl ?_
    refine own_iconst X0 hx (v := (0 : Int32)) (pc' := 4) rfl (hb hby d_prog_5_method_17_code_3) rfl ?_
    refine own_istore X0 hx (Ls' := #[.val (.ref a1), .val (.int p2), .val (.ref a3), .val (.ref a4), .val (.int (Int32.ofNat F)), .val (.int (2 : Int32)), .val (.int p2), .val (.int (0 : Int32)), .unset]) (pc' := 6) rfl (hb hby d_prog_5_method_17_code_4) rfl ?_
    refine own_iload X0 hx (pc' := 8) rfl (hb hby d_prog_5_method_17_code_6) rfl ?_
    refine own_iload X0 hx (pc' := 10) rfl (hb hby d_prog_5_method_17_code_8) rfl ?_
    refine own_icmpF X0 hx (pc' := 13) rfl (hb hby d_prog_5_method_17_code_10) (XT.ii_ge_f (by decide)) ?_
    refine own_iload X0 hx (pc' := 15) rfl (hb hby d_prog_5_method_17_code_13) rfl ?_
    refine own_iload X0 hx (pc' := 17) rfl (hb hby d_prog_5_method_17_code_15) rfl ?_
    refine own_iadd X0 hx (v := (Int32.ofNat (F + 0))) (pc' := 18) rfl (hb hby d_prog_5_method_17_code_17) (own_addn F 0) ?_
    refine own_istore X0 hx (Ls' := #[.val (.ref a1), .val (.int p2), .val (.ref a3), .val (.ref a4), .val (.int (Int32.ofNat F)), .val (.int (2 : Int32)), .val (.int p2), .val (.int (0 : Int32)), .val (.int (Int32.ofNat (F + 0)))]) (pc' := 20) rfl (hb hby d_prog_5_method_17_code_18) rfl ?_
    refine own_while X0 hx hby hZ e0 I7 hfr hge (hlt 0 (by decide)) ?_
    refine own_aloadN X0 hx (pc' := 38) rfl (hb hby d_prog_5_method_17_code_37) rfl rfl ?_
    refine own_getF X0 hx hZ hown (host := "") (Or.inl (hw _ (List.mem_of_getElem? (i := 11) rfl))) Via.refl e0 I1 (pc' := 41) rfl (hb hby d_prog_5_method_17_code_38) ?_
    intro T136 X136 e136
    refine own_iload X136 hx (pc' := 43) rfl (hb hby d_prog_5_method_17_code_41) rfl ?_
    refine own_iload X136 hx (pc' := 45) rfl (hb hby d_prog_5_method_17_code_43) rfl ?_
    refine own_stI X136 hx hZ e136 I9 (k := 0) (by decide) (by decide) (by decide) (pc' := 46) rfl (hb hby d_prog_5_method_17_code_45) ?_
    intro T137 h137 X137 e137 W137 A137
    have Siz_138 := own_sizWr W137 Z0
    have Exa_139 := Exa.wr W137 I0
    have Fld_140 := Fld.other W137 I1 (Or.inl ne_a1_b1)
    have Fld_141 := Fld.other W137 I2 (Or.inl ne_a1_b1)
    have Fld_142 := Fld.other W137 I3 (Or.inl ne_a1_b1)
    have Fld_143 := Fld.other W137 I4 (Or.inl ne_a1_b1)
    have Fld_144 := Fld.other W137 I5 (Or.inl ne_a1_b1)
    have Fld_145 := Fld.other W137 I6 (Or.inl ne_a1_b1)
    have Arr_146 := own_Arr.other W137 I7 ne_a3_b1
    have Arr_147 := own_Arr.other W137 I8 ne_a4_b1
    have Arr_149 := own_Arr.other W137 I10 (Ne.symm ne_b1_b2)
    have Arr_150 := own_Arr.other W137 I11 (Ne.symm ne_b1_b3)
    have N137 := Fr.snoc X137 N0 ge_b1
    have K137 := Keep.wr K0 W137 (Or.inl (by simp))
    refine own_aloadN X137 hx (pc' := 47) rfl (hb hby d_prog_5_method_17_code_46) rfl rfl ?_
    refine own_getF X137 hx hZ hown (host := "") (Or.inl (hw _ (List.mem_of_getElem? (i := 13) rfl))) Via.refl e137 Fld_141 (pc' := 50) rfl (hb hby d_prog_5_method_17_code_47) ?_
    intro T151 X151 e151
    refine own_iload X151 hx (pc' := 52) rfl (hb hby d_prog_5_method_17_code_50) rfl ?_
    refine own_aloadN X151 hx (pc' := 53) rfl (hb hby d_prog_5_method_17_code_52) rfl rfl ?_
    refine own_iload X151 hx (pc' := 55) rfl (hb hby d_prog_5_method_17_code_53) rfl ?_
    refine own_ldI X151 hx hZ e151 Arr_147 (k := (F + 0)) (own_ix (by omega)).1 (own_ix (by omega)).2 (by omega) (v := (.int (cc + (1000 : Int32) * Int32.ofNat (F + 0)))) (hcol (F + 0) (by omega)) (pc' := 56) rfl (hb hby d_prog_5_method_17_code_55) ?_
    refine own_stI X151 hx hZ e151 Arr_149 (k := 0) (by decide) (by decide) (by decide) (pc' := 57) rfl (hb hby d_prog_5_method_17_code_56) ?_
    intro T152 h152 X152 e152 W152 A152
    have Siz_153 := own_sizWr W152 Siz_138
    have Exa_154 := Exa.wr W152 Exa_139
    have Fld_155 := Fld.other W152 Fld_140 (Or.inl ne_a1_b2)
    have Fld_156 := Fld.other W152 Fld_141 (Or.inl ne_a1_b2)
    have Fld_157 := Fld.other W152 Fld_142 (Or.inl ne_a1_b2)
    have Fld_158 := Fld.other W152 Fld_143 (Or.inl ne_a1_b2)
    have Fld_159 := Fld.other W152 Fld_144 (Or.inl ne_a1_b2)
    have Fld_160 := Fld.other W152 Fld_145 (Or.inl ne_a1_b2)
    have Arr_161 := own_Arr.other W152 Arr_146 ne_a3_b2
    have Arr_162 := own_Arr.other W152 Arr_147 ne_a4_b2
    have Arr_164 := own_Arr.other W152 Arr_150 (Ne.symm ne_b2_b3)
    have Arr_165 := own_Arr.other W152 A137 ne_b1_b2
    have N152 := Fr.snoc X152 N137 ge_b2
    have K152 := Keep.wr K137 W152 (Or.inl (by simp))
    refine own_aloadN X152 hx (pc' := 58) rfl (hb hby d_prog_5_method_17_code_57) rfl rfl ?_
    refine own_getF X152 hx hZ hown (host := "") (Or.inl (hw _ (List.mem_of_getElem? (i := 15) rfl))) Via.refl e152 Fld_157 (pc' := 61) rfl (hb hby d_prog_5_method_17_code_58) ?_
    intro T166 X166 e166
    refine own_iload X166 hx (pc' := 63) rfl (hb hby d_prog_5_method_17_code_61) rfl ?_
    refine own_iload X166 hx (pc' := 65) rfl (hb hby d_prog_5_method_17_code_63) rfl ?_
    refine own_stI X166 hx hZ e166 Arr_164 (k := 0) (by decide) (by decide) (by decide) (pc' := 66) rfl (hb hby d_prog_5_method_17_code_65) ?_
    intro T167 h167 X167 e167 W167 A167
    have Siz_168 := own_sizWr W167 Siz_153
    have Exa_169 := Exa.wr W167 Exa_154
    have Fld_170 := Fld.other W167 Fld_155 (Or.inl ne_a1_b3)
    have Fld_171 := Fld.other W167 Fld_156 (Or.inl ne_a1_b3)
    have Fld_172 := Fld.other W167 Fld_157 (Or.inl ne_a1_b3)
    have Fld_173 := Fld.other W167 Fld_158 (Or.inl ne_a1_b3)
    have Fld_174 := Fld.other W167 Fld_159 (Or.inl ne_a1_b3)
    have Fld_175 := Fld.other W167 Fld_160 (Or.inl ne_a1_b3)
    have Arr_176 := own_Arr.other W167 Arr_161 ne_a3_b3
    have Arr_177 := own_Arr.other W167 Arr_162 ne_a4_b3
    have Arr_179 := own_Arr.other W167 Arr_165 ne_b1_b3
    have Arr_180 := own_Arr.other W167 A152 ne_b2_b3
    have N167 := Fr.snoc X167 N152 ge_b3
    have K167 := Keep.wr K152 W167 (Or.inl (by simp))
    refine own_iinc X167 hx (v := (1 : Int32)) (Ls' := #[.val (.ref a1), .val (.int p2), .val (.ref a3), .val (.ref a4), .val (.int (Int32.ofNat F)), .val (.int (2 : Int32)), .val (.int (own_row (Int32.ofNat (F + 0)) s1 s2 s3)), .val (.int (1 : Int32)), .val (.int (Int32.ofNat (F + 0)))]) (pc' := 69) rfl (hb hby d_prog_5_method_17_code_66) rfl (by decide) rfl ?_
    refine own_goto X167 hx (pc' := 6) (hb hby d_prog_5_method_17_code_69) (by decide) (by decide) ?_
    refine own_iload X167 hx (pc' := 8) rfl (hb hby d_prog_5_method_17_code_6) rfl ?_
    refine own_iload X167 hx (pc' := 10) rfl (hb hby d_prog_5_method_17_code_8) rfl ?_
    refine own_icmpF X167 hx (pc' := 13) rfl (hb hby d_prog_5_method_17_code_10) (XT.ii_ge_f (by decide)) ?_
    refine own_iload X167 hx (pc' := 15) rfl (hb hby d_prog_5_method_17_code_13) rfl ?_
    refine own_iload X167 hx (pc' := 17) rfl (hb hby d_prog_5_method_17_code_15) rfl ?_
    refine own_iadd X167 hx (v := (Int32.ofNat (F + 1))) (pc' := 18) rfl (hb hby d_prog_5_method_17_code_17) (own_addn F 1) ?_
    refine own_istore X167 hx (Ls' := #[.val (.ref a1), .val (.int p2), .val (.ref a3), .val (.ref a4), .val (.int (Int32.ofNat F)), .val (.int (2 : Int32)), .val (.int (own_row (Int32.ofNat (F + 0)) s1 s2 s3)), .val (.int (1 : Int32)), .val (.int (Int32.ofNat (F + 1)))]) (pc' := 20) rfl (hb hby d_prog_5_method_17_code_18) rfl ?_
    refine own_while X167 hx hby hZ e167 Arr_176 hfr (own_ge_row (own_nlt (F := F) (j := 0) (by omega))) (hlt 1 (by decide)) ?_
    refine own_aloadN X167 hx (pc' := 38) rfl (hb hby d_prog_5_method_17_code_37) rfl rfl ?_
    refine own_getF X167 hx hZ hown (host := "") (Or.inl (hw _ (List.mem_of_getElem? (i := 11) rfl))) Via.refl e167 Fld_170 (pc' := 41) rfl (hb hby d_prog_5_method_17_code_38) ?_
    intro T181 X181 e181
    refine own_iload X181 hx (pc' := 43) rfl (hb hby d_prog_5_method_17_code_41) rfl ?_
    refine own_iload X181 hx (pc' := 45) rfl (hb hby d_prog_5_method_17_code_43) rfl ?_
    refine own_stI X181 hx hZ e181 Arr_179 (k := 1) (by decide) (by decide) (by decide) (pc' := 46) rfl (hb hby d_prog_5_method_17_code_45) ?_
    intro T182 h182 X182 e182 W182 A182
    have Siz_183 := own_sizWr W182 Siz_168
    have Exa_184 := Exa.wr W182 Exa_169
    have Fld_185 := Fld.other W182 Fld_170 (Or.inl ne_a1_b1)
    have Fld_186 := Fld.other W182 Fld_171 (Or.inl ne_a1_b1)
    have Fld_187 := Fld.other W182 Fld_172 (Or.inl ne_a1_b1)
    have Fld_188 := Fld.other W182 Fld_173 (Or.inl ne_a1_b1)
    have Fld_189 := Fld.other W182 Fld_174 (Or.inl ne_a1_b1)
    have Fld_190 := Fld.other W182 Fld_175 (Or.inl ne_a1_b1)
    have Arr_191 := own_Arr.other W182 Arr_176 ne_a3_b1
    have Arr_192 := own_Arr.other W182 Arr_177 ne_a4_b1
    have Arr_194 := own_Arr.other W182 Arr_180 (Ne.symm ne_b1_b2)
    have Arr_195 := own_Arr.other W182 A167 (Ne.symm ne_b1_b3)
    have N182 := Fr.snoc X182 N167 ge_b1
    have K182 := Keep.wr K167 W182 (Or.inl (by simp))
    refine own_aloadN X182 hx (pc' := 47) rfl (hb hby d_prog_5_method_17_code_46) rfl rfl ?_
    refine own_getF X182 hx hZ hown (host := "") (Or.inl (hw _ (List.mem_of_getElem? (i := 13) rfl))) Via.refl e182 Fld_186 (pc' := 50) rfl (hb hby d_prog_5_method_17_code_47) ?_
    intro T196 X196 e196
    refine own_iload X196 hx (pc' := 52) rfl (hb hby d_prog_5_method_17_code_50) rfl ?_
    refine own_aloadN X196 hx (pc' := 53) rfl (hb hby d_prog_5_method_17_code_52) rfl rfl ?_
    refine own_iload X196 hx (pc' := 55) rfl (hb hby d_prog_5_method_17_code_53) rfl ?_
    refine own_ldI X196 hx hZ e196 Arr_192 (k := (F + 1)) (own_ix (by omega)).1 (own_ix (by omega)).2 (by omega) (v := (.int (cc + (1000 : Int32) * Int32.ofNat (F + 1)))) (hcol (F + 1) (by omega)) (pc' := 56) rfl (hb hby d_prog_5_method_17_code_55) ?_
    refine own_stI X196 hx hZ e196 Arr_194 (k := 1) (by decide) (by decide) (by decide) (pc' := 57) rfl (hb hby d_prog_5_method_17_code_56) ?_
    intro T197 h197 X197 e197 W197 A197
    have Siz_198 := own_sizWr W197 Siz_183
    have Exa_199 := Exa.wr W197 Exa_184
    have Fld_200 := Fld.other W197 Fld_185 (Or.inl ne_a1_b2)
    have Fld_201 := Fld.other W197 Fld_186 (Or.inl ne_a1_b2)
    have Fld_202 := Fld.other W197 Fld_187 (Or.inl ne_a1_b2)
    have Fld_203 := Fld.other W197 Fld_188 (Or.inl ne_a1_b2)
    have Fld_204 := Fld.other W197 Fld_189 (Or.inl ne_a1_b2)
    have Fld_205 := Fld.other W197 Fld_190 (Or.inl ne_a1_b2)
    have Arr_206 := own_Arr.other W197 Arr_191 ne_a3_b2
    have Arr_207 := own_Arr.other W197 Arr_192 ne_a4_b2
    have Arr_209 := own_Arr.other W197 Arr_195 (Ne.symm ne_b2_b3)
    have Arr_210 := own_Arr.other W197 A182 ne_b1_b2
    have N197 := Fr.snoc X197 N182 ge_b2
    have K197 := Keep.wr K182 W197 (Or.inl (by simp))
    refine own_aloadN X197 hx (pc' := 58) rfl (hb hby d_prog_5_method_17_code_57) rfl rfl ?_
    refine own_getF X197 hx hZ hown (host := "") (Or.inl (hw _ (List.mem_of_getElem? (i := 15) rfl))) Via.refl e197 Fld_202 (pc' := 61) rfl (hb hby d_prog_5_method_17_code_58) ?_
    intro T211 X211 e211
    refine own_iload X211 hx (pc' := 63) rfl (hb hby d_prog_5_method_17_code_61) rfl ?_
    refine own_iload X211 hx (pc' := 65) rfl (hb hby d_prog_5_method_17_code_63) rfl ?_
    refine own_stI X211 hx hZ e211 Arr_209 (k := 1) (by decide) (by decide) (by decide) (pc' := 66) rfl (hb hby d_prog_5_method_17_code_65) ?_
    intro T212 h212 X212 e212 W212 A212
    have Siz_213 := own_sizWr W212 Siz_198
    have Exa_214 := Exa.wr W212 Exa_199
    have Fld_215 := Fld.other W212 Fld_200 (Or.inl ne_a1_b3)
    have Fld_216 := Fld.other W212 Fld_201 (Or.inl ne_a1_b3)
    have Fld_217 := Fld.other W212 Fld_202 (Or.inl ne_a1_b3)
    have Fld_218 := Fld.other W212 Fld_203 (Or.inl ne_a1_b3)
    have Fld_219 := Fld.other W212 Fld_204 (Or.inl ne_a1_b3)
    have Fld_220 := Fld.other W212 Fld_205 (Or.inl ne_a1_b3)
    have Arr_221 := own_Arr.other W212 Arr_206 ne_a3_b3
    have Arr_222 := own_Arr.other W212 Arr_207 ne_a4_b3
    have Arr_224 := own_Arr.other W212 Arr_210 ne_b1_b3
    have Arr_225 := own_Arr.other W212 A197 ne_b2_b3
    have N212 := Fr.snoc X212 N197 ge_b3
    have K212 := Keep.wr K197 W212 (Or.inl (by simp))
    refine own_iinc X212 hx (v := (2 : Int32)) (Ls' := #[.val (.ref a1), .val (.int p2), .val (.ref a3), .val (.ref a4), .val (.int (Int32.ofNat F)), .val (.int (2 : Int32)), .val (.int (own_row (Int32.ofNat (F + 1)) s1 s2 s3)), .val (.int (2 : Int32)), .val (.int (Int32.ofNat (F + 1)))]) (pc' := 69) rfl (hb hby d_prog_5_method_17_code_66) rfl (by decide) rfl ?_
    refine own_goto X212 hx (pc' := 6) (hb hby d_prog_5_method_17_code_69) (by decide) (by decide) ?_
    refine own_iload X212 hx (pc' := 8) rfl (hb hby d_prog_5_method_17_code_6) rfl ?_
    refine own_iload X212 hx (pc' := 10) rfl (hb hby d_prog_5_method_17_code_8) rfl ?_
    refine own_icmpT X212 hx (pc' := 72) (hb hby d_prog_5_method_17_code_10) (XT.ii_ge_t (by decide)) (by decide) (by decide) ?_
    refine own_aloadN X212 hx (pc' := 73) rfl (hb hby d_prog_5_method_17_code_72) rfl rfl ?_
    refine own_iload X212 hx (pc' := 75) rfl (hb hby d_prog_5_method_17_code_73) rfl ?_
    refine own_putF X212 hx hZ hown (host := "") (Or.inl (hw _ (List.mem_of_getElem? (i := 26) rfl))) Via.refl e212 Fld_218 Exa_214 (Or.inl (hw _ (List.mem_of_getElem? (i := 27) rfl))) (hw _ (List.mem_of_getElem? (i := 3) rfl)) (ty := .int) (by decide) rfl rfl (pc' := 78) rfl (hb hby d_prog_5_method_17_code_75) ?_
    intro T226 h226 X226 e226 W226
    have F227 := Fld.same W226 Fld_218
    have Siz_228 := own_sizWr W226 Siz_213
    have Exa_229 := Exa.wr W226 Exa_214
    have Fld_230 := Fld.other W226 Fld_215 (Or.inr (slot_ne (Or.inr (hw _ (List.mem_of_getElem? (i := 12) rfl))) (Or.inl (hw _ (List.mem_of_getElem? (i := 27) rfl))) (by decide) (t := (.array .int)) (t' := .int) (by decide) (by decide)))
    have Fld_231 := Fld.other W226 Fld_216 (Or.inr (slot_ne (Or.inr (hw _ (List.mem_of_getElem? (i := 14) rfl))) (Or.inl (hw _ (List.mem_of_getElem? (i := 27) rfl))) (by decide) (t := (.array .int)) (t' := .int) (by decide) (by decide)))
    have Fld_232 := Fld.other W226 Fld_217 (Or.inr (slot_ne (Or.inr (hw _ (List.mem_of_getElem? (i := 16) rfl))) (Or.inl (hw _ (List.mem_of_getElem? (i := 27) rfl))) (by decide) (t := (.array .int)) (t' := .int) (by decide) (by decide)))
    have Fld_234 := Fld.other W226 Fld_219 (Or.inr (slot_ne (Or.inl (hw _ (List.mem_of_getElem? (i := 29) rfl))) (Or.inl (hw _ (List.mem_of_getElem? (i := 27) rfl))) (by decide) (t := .boolean) (t' := .int) (by decide) (by decide)))
    have Fld_235 := Fld.other W226 Fld_220 (Or.inr (slot_ne (Or.inl (hw _ (List.mem_of_getElem? (i := 18) rfl))) (Or.inl (hw _ (List.mem_of_getElem? (i := 27) rfl))) (by decide) (t := .boolean) (t' := .int) (by decide) (by decide)))
    have Arr_236 := own_Arr.other W226 Arr_221 ne_a3_a1
    have Arr_237 := own_Arr.other W226 Arr_222 ne_a4_a1
    have Arr_238 := own_Arr.other W226 Arr_224 (Ne.symm ne_a1_b1)
    have Arr_239 := own_Arr.other W226 Arr_225 (Ne.symm ne_a1_b2)
    have Arr_240 := own_Arr.other W226 A212 (Ne.symm ne_a1_b3)
    have N226 := Fr.snoc X226 N212 ge_a1
    have K226 := Keep.wr K212 W226 (Or.inl (by simp))
    refine own_aloadN X226 hx (pc' := 79) rfl (hb hby d_prog_5_method_17_code_78) rfl rfl ?_
    refine own_iconst X226 hx (v := (0 : Int32)) (pc' := 80) rfl (hb hby d_prog_5_method_17_code_79) rfl ?_
    refine own_putF X226 hx hZ hown (host := "") (Or.inl (hw _ (List.mem_of_getElem? (i := 28) rfl))) Via.refl e226 Fld_234 Exa_229 (Or.inl (hw _ (List.mem_of_getElem? (i := 29) rfl))) (hw _ (List.mem_of_getElem? (i := 3) rfl)) (ty := .boolean) (by decide) rfl (by decide) (pc' := 83) rfl (hb hby d_prog_5_method_17_code_80) ?_
    intro T241 h241 X241 e241 W241
    have F242 := Fld.same W241 Fld_234
    have Siz_243 := own_sizWr W241 Siz_228
    have Exa_244 := Exa.wr W241 Exa_229
    have Fld_245 := Fld.other W241 Fld_230 (Or.inr (slot_ne (Or.inr (hw _ (List.mem_of_getElem? (i := 12) rfl))) (Or.inl (hw _ (List.mem_of_getElem? (i := 29) rfl))) (by decide) (t := (.array .int)) (t' := .boolean) (by decide) (by decide)))
    have Fld_246 := Fld.other W241 Fld_231 (Or.inr (slot_ne (Or.inr (hw _ (List.mem_of_getElem? (i := 14) rfl))) (Or.inl (hw _ (List.mem_of_getElem? (i := 29) rfl))) (by decide) (t := (.array .int)) (t' := .boolean) (by decide) (by decide)))
    have Fld_247 := Fld.other W241 Fld_232 (Or.inr (slot_ne (Or.inr (hw _ (List.mem_of_getElem? (i := 16) rfl))) (Or.inl (hw _ (List.mem_of_getElem? (i := 29) rfl))) (by decide) (t := (.array .int)) (t' := .boolean) (by decide) (by decide)))
    have Fld_249 := Fld.other W241 Fld_235 (Or.inr (slot_ne (Or.inl (hw _ (List.mem_of_getElem? (i := 18) rfl))) (Or.inl (hw _ (List.mem_of_getElem? (i := 29) rfl))) (by decide) (t := .boolean) (t' := .boolean) (by decide) (by decide)))
    have Arr_250 := own_Arr.other W241 Arr_236 ne_a3_a1
    have Arr_251 := own_Arr.other W241 Arr_237 ne_a4_a1
    have Arr_252 := own_Arr.other W241 Arr_238 (Ne.symm ne_a1_b1)
    have Arr_253 := own_Arr.other W241 Arr_239 (Ne.symm ne_a1_b2)
    have Arr_254 := own_Arr.other W241 Arr_240 (Ne.symm ne_a1_b3)
    have Fld_255 := Fld.other W241 F227 (Or.inr (slot_ne (Or.inl (hw _ (List.mem_of_getElem? (i := 27) rfl))) (Or.inl (hw _ (List.mem_of_getElem? (i := 29) rfl))) (by decide) (t := .int) (t' := .boolean) (by decide) (by decide)))
    have N241 := Fr.snoc X241 N226 ge_a1
    have K241 := Keep.wr K226 W241 (Or.inl (by simp))
    refine own_aloadN X241 hx (pc' := 84) rfl (hb hby d_prog_5_method_17_code_83) rfl rfl ?_
    refine own_iconst X241 hx (v := (1 : Int32)) (pc' := 85) rfl (hb hby d_prog_5_method_17_code_84) rfl ?_
    refine own_putF X241 hx hZ hown (host := "") (Or.inl (hw _ (List.mem_of_getElem? (i := 17) rfl))) Via.refl e241 Fld_249 Exa_244 (Or.inl (hw _ (List.mem_of_getElem? (i := 18) rfl))) (hw _ (List.mem_of_getElem? (i := 3) rfl)) (ty := .boolean) (by decide) rfl (by decide) (pc' := 88) rfl (hb hby d_prog_5_method_17_code_85) ?_
    intro T256 h256 X256 e256 W256
    have F257 := Fld.same W256 Fld_249
    have Siz_258 := own_sizWr W256 Siz_243
    have Exa_259 := Exa.wr W256 Exa_244
    have Fld_260 := Fld.other W256 Fld_245 (Or.inr (slot_ne (Or.inr (hw _ (List.mem_of_getElem? (i := 12) rfl))) (Or.inl (hw _ (List.mem_of_getElem? (i := 18) rfl))) (by decide) (t := (.array .int)) (t' := .boolean) (by decide) (by decide)))
    have Fld_261 := Fld.other W256 Fld_246 (Or.inr (slot_ne (Or.inr (hw _ (List.mem_of_getElem? (i := 14) rfl))) (Or.inl (hw _ (List.mem_of_getElem? (i := 18) rfl))) (by decide) (t := (.array .int)) (t' := .boolean) (by decide) (by decide)))
    have Fld_262 := Fld.other W256 Fld_247 (Or.inr (slot_ne (Or.inr (hw _ (List.mem_of_getElem? (i := 16) rfl))) (Or.inl (hw _ (List.mem_of_getElem? (i := 18) rfl))) (by decide) (t := (.array .int)) (t' := .boolean) (by decide) (by decide)))
    have Arr_264 := own_Arr.other W256 Arr_250 ne_a3_a1
    have Arr_265 := own_Arr.other W256 Arr_251 ne_a4_a1
    have Arr_266 := own_Arr.other W256 Arr_252 (Ne.symm ne_a1_b1)
    have Arr_267 := own_Arr.other W256 Arr_253 (Ne.symm ne_a1_b2)
    have Arr_268 := own_Arr.other W256 Arr_254 (Ne.symm ne_a1_b3)
    have Fld_269 := Fld.other W256 Fld_255 (Or.inr (slot_ne (Or.inl (hw _ (List.mem_of_getElem? (i := 27) rfl))) (Or.inl (hw _ (List.mem_of_getElem? (i := 18) rfl))) (by decide) (t := .int) (t' := .boolean) (by decide) (by decide)))
    have Fld_270 := Fld.other W256 F242 (Or.inr (slot_ne (Or.inl (hw _ (List.mem_of_getElem? (i := 29) rfl))) (Or.inl (hw _ (List.mem_of_getElem? (i := 18) rfl))) (by decide) (t := .boolean) (t' := .boolean) (by decide) (by decide)))
    have N256 := Fr.snoc X256 N241 ge_a1
    have K256 := Keep.wr K241 W256 (Or.inl (by simp))
    refine own_iload X256 hx (pc' := 90) rfl (hb hby d_prog_5_method_17_code_88) rfl ?_
    refine own_iret X256 hx hlk hret (hb hby d_prog_5_method_17_code_90) (by decide) (by decide) ?_
    rw [e256]
    exact ⟨rfl, N256, K256, Exa_259, Fld_260, Fld_261, Fld_262, Fld_269, Fld_270, F257, (own_Arr.congr Arr_266 (fun j _ => (own_ts (g := (fun j => own_row (Int32.ofNat (F + j)) s1 s2 s3)) (k := 1) (own_ts (g := (fun j => own_row (Int32.ofNat (F + j)) s1 s2 s3)) (k := 0) (own_t0 (fun j => own_row (Int32.ofNat (F + j)) s1 s2 s3)))) j)), (own_Arr.congr Arr_267 (fun j _ => (own_ts (g := (fun j => cc + (1000 : Int32) * Int32.ofNat (F + j))) (k := 1) (own_ts (g := (fun j => cc + (1000 : Int32) * Int32.ofNat (F + j))) (k := 0) (own_t0 (fun j => cc + (1000 : Int32) * Int32.ofNat (F + j))))) j)), (own_Arr.congr Arr_268 (fun j _ => (own_ts (g := (fun j => Int32.ofNat (F + j))) (k := 1) (own_ts (g := (fun j => Int32.ofNat (F + j))) (k := 0) (own_t0 (fun j => Int32.ofNat (F + j))))) j))⟩
  · refine own_iloadN X0 hx (pc' := 1) rfl (hb hby d_prog_5_method_17_code_0) rfl ?_
    refine own_istore X0 hx (Ls' := #[.val (.ref a1), .val (.int p2), .val (.ref a3), .val (.ref a4), .val (.int (Int32.ofNat F)), .val (.int (3 : Int32)), .val (.int p2), .unset, .unset]) (pc' := 3) rfl (hb hby d_prog_5_method_17_code_1) rfl ?_
    refine own_iconst X0 hx (v := (0 : Int32)) (pc' := 4) rfl (hb hby d_prog_5_method_17_code_3) rfl ?_
    refine own_istore X0 hx (Ls' := #[.val (.ref a1), .val (.int p2), .val (.ref a3), .val (.ref a4), .val (.int (Int32.ofNat F)), .val (.int (3 : Int32)), .val (.int p2), .val (.int (0 : Int32)), .unset]) (pc' := 6) rfl (hb hby d_prog_5_method_17_code_4) rfl ?_
    refine own_iload X0 hx (pc' := 8) rfl (hb hby d_prog_5_method_17_code_6) rfl ?_
    refine own_iload X0 hx (pc' := 10) rfl (hb hby d_prog_5_method_17_code_8) rfl ?_
    refine own_icmpF X0 hx (pc' := 13) rfl (hb hby d_prog_5_method_17_code_10) (XT.ii_ge_f (by decide)) ?_
    refine own_iload X0 hx (pc' := 15) rfl (hb hby d_prog_5_method_17_code_13) rfl ?_
    refine own_iload X0 hx (pc' := 17) rfl (hb hby d_prog_5_method_17_code_15) rfl ?_
    refine own_iadd X0 hx (v := (Int32.ofNat (F + 0))) (pc' := 18) rfl (hb hby d_prog_5_method_17_code_17) (own_addn F 0) ?_
    refine own_istore X0 hx (Ls' := #[.val (.ref a1), .val (.int p2), .val (.ref a3), .val (.ref a4), .val (.int (Int32.ofNat F)), .val (.int (3 : Int32)), .val (.int p2), .val (.int (0 : Int32)), .val (.int (Int32.ofNat (F + 0)))]) (pc' := 20) rfl (hb hby d_prog_5_method_17_code_18) rfl ?_
    refine own_while X0 hx hby hZ e0 I7 hfr hge (hlt 0 (by decide)) ?_
    refine own_aloadN X0 hx (pc' := 38) rfl (hb hby d_prog_5_method_17_code_37) rfl rfl ?_
    refine own_getF X0 hx hZ hown (host := "") (Or.inl (hw _ (List.mem_of_getElem? (i := 11) rfl))) Via.refl e0 I1 (pc' := 41) rfl (hb hby d_prog_5_method_17_code_38) ?_
    intro T271 X271 e271
    refine own_iload X271 hx (pc' := 43) rfl (hb hby d_prog_5_method_17_code_41) rfl ?_
    refine own_iload X271 hx (pc' := 45) rfl (hb hby d_prog_5_method_17_code_43) rfl ?_
    refine own_stI X271 hx hZ e271 I9 (k := 0) (by decide) (by decide) (by decide) (pc' := 46) rfl (hb hby d_prog_5_method_17_code_45) ?_
    intro T272 h272 X272 e272 W272 A272
    have Siz_273 := own_sizWr W272 Z0
    have Exa_274 := Exa.wr W272 I0
    have Fld_275 := Fld.other W272 I1 (Or.inl ne_a1_b1)
    have Fld_276 := Fld.other W272 I2 (Or.inl ne_a1_b1)
    have Fld_277 := Fld.other W272 I3 (Or.inl ne_a1_b1)
    have Fld_278 := Fld.other W272 I4 (Or.inl ne_a1_b1)
    have Fld_279 := Fld.other W272 I5 (Or.inl ne_a1_b1)
    have Fld_280 := Fld.other W272 I6 (Or.inl ne_a1_b1)
    have Arr_281 := own_Arr.other W272 I7 ne_a3_b1
    have Arr_282 := own_Arr.other W272 I8 ne_a4_b1
    have Arr_284 := own_Arr.other W272 I10 (Ne.symm ne_b1_b2)
    have Arr_285 := own_Arr.other W272 I11 (Ne.symm ne_b1_b3)
    have N272 := Fr.snoc X272 N0 ge_b1
    have K272 := Keep.wr K0 W272 (Or.inl (by simp))
    refine own_aloadN X272 hx (pc' := 47) rfl (hb hby d_prog_5_method_17_code_46) rfl rfl ?_
    refine own_getF X272 hx hZ hown (host := "") (Or.inl (hw _ (List.mem_of_getElem? (i := 13) rfl))) Via.refl e272 Fld_276 (pc' := 50) rfl (hb hby d_prog_5_method_17_code_47) ?_
    intro T286 X286 e286
    refine own_iload X286 hx (pc' := 52) rfl (hb hby d_prog_5_method_17_code_50) rfl ?_
    refine own_aloadN X286 hx (pc' := 53) rfl (hb hby d_prog_5_method_17_code_52) rfl rfl ?_
    refine own_iload X286 hx (pc' := 55) rfl (hb hby d_prog_5_method_17_code_53) rfl ?_
    refine own_ldI X286 hx hZ e286 Arr_282 (k := (F + 0)) (own_ix (by omega)).1 (own_ix (by omega)).2 (by omega) (v := (.int (cc + (1000 : Int32) * Int32.ofNat (F + 0)))) (hcol (F + 0) (by omega)) (pc' := 56) rfl (hb hby d_prog_5_method_17_code_55) ?_
    refine own_stI X286 hx hZ e286 Arr_284 (k := 0) (by decide) (by decide) (by decide) (pc' := 57) rfl (hb hby d_prog_5_method_17_code_56) ?_
    intro T287 h287 X287 e287 W287 A287
    have Siz_288 := own_sizWr W287 Siz_273
    have Exa_289 := Exa.wr W287 Exa_274
    have Fld_290 := Fld.other W287 Fld_275 (Or.inl ne_a1_b2)
    have Fld_291 := Fld.other W287 Fld_276 (Or.inl ne_a1_b2)
    have Fld_292 := Fld.other W287 Fld_277 (Or.inl ne_a1_b2)
    have Fld_293 := Fld.other W287 Fld_278 (Or.inl ne_a1_b2)
    have Fld_294 := Fld.other W287 Fld_279 (Or.inl ne_a1_b2)
    have Fld_295 := Fld.other W287 Fld_280 (Or.inl ne_a1_b2)
    have Arr_296 := own_Arr.other W287 Arr_281 ne_a3_b2
    have Arr_297 := own_Arr.other W287 Arr_282 ne_a4_b2
    have Arr_299 := own_Arr.other W287 Arr_285 (Ne.symm ne_b2_b3)
    have Arr_300 := own_Arr.other W287 A272 ne_b1_b2
    have N287 := Fr.snoc X287 N272 ge_b2
    have K287 := Keep.wr K272 W287 (Or.inl (by simp))
    refine own_aloadN X287 hx (pc' := 58) rfl (hb hby d_prog_5_method_17_code_57) rfl rfl ?_
    refine own_getF X287 hx hZ hown (host := "") (Or.inl (hw _ (List.mem_of_getElem? (i := 15) rfl))) Via.refl e287 Fld_292 (pc' := 61) rfl (hb hby d_prog_5_method_17_code_58) ?_
    intro T301 X301 e301
    refine own_iload X301 hx (pc' := 63) rfl (hb hby d_prog_5_method_17_code_61) rfl ?_
    refine own_iload X301 hx (pc' := 65) rfl (hb hby d_prog_5_method_17_code_63) rfl ?_
    refine own_stI X301 hx hZ e301 Arr_299 (k := 0) (by decide) (by decide) (by decide) (pc' := 66) rfl (hb hby d_prog_5_method_17_code_65) ?_
    intro T302 h302 X302 e302 W302 A302
    have Siz_303 := own_sizWr W302 Siz_288
    have Exa_304 := Exa.wr W302 Exa_289
    have Fld_305 := Fld.other W302 Fld_290 (Or.inl ne_a1_b3)
    have Fld_306 := Fld.other W302 Fld_291 (Or.inl ne_a1_b3)
    have Fld_307 := Fld.other W302 Fld_292 (Or.inl ne_a1_b3)
    have Fld_308 := Fld.other W302 Fld_293 (Or.inl ne_a1_b3)
    have Fld_309 := Fld.other W302 Fld_294 (Or.inl ne_a1_b3)
    have Fld_310 := Fld.other W302 Fld_295 (Or.inl ne_a1_b3)
    have Arr_311 := own_Arr.other W302 Arr_296 ne_a3_b3
    have Arr_312 := own_Arr.other W302 Arr_297 ne_a4_b3
    have Arr_314 := own_Arr.other W302 Arr_300 ne_b1_b3
    have Arr_315 := own_Arr.other W302 A287 ne_b2_b3
    have N302 := Fr.snoc X302 N287 ge_b3
    have K302 := Keep.wr K287 W302 (Or.inl (by simp))
    refine own_iinc X302 hx (v := (1 : Int32)) (Ls' := #[.val (.ref a1), .val (.int p2), .val (.ref a3), .val (.ref a4), .val (.int (Int32.ofNat F)), .val (.int (3 : Int32)), .val (.int (own_row (Int32.ofNat (F + 0)) s1 s2 s3)), .val (.int (1 : Int32)), .val (.int (Int32.ofNat (F + 0)))]) (pc' := 69) rfl (hb hby d_prog_5_method_17_code_66) rfl (by decide) rfl ?_
    refine own_goto X302 hx (pc' := 6) (hb hby d_prog_5_method_17_code_69) (by decide) (by decide) ?_
    refine own_iload X302 hx (pc' := 8) rfl (hb hby d_prog_5_method_17_code_6) rfl ?_
    refine own_iload X302 hx (pc' := 10) rfl (hb hby d_prog_5_method_17_code_8) rfl ?_
    refine own_icmpF X302 hx (pc' := 13) rfl (hb hby d_prog_5_method_17_code_10) (XT.ii_ge_f (by decide)) ?_
    refine own_iload X302 hx (pc' := 15) rfl (hb hby d_prog_5_method_17_code_13) rfl ?_
    refine own_iload X302 hx (pc' := 17) rfl (hb hby d_prog_5_method_17_code_15) rfl ?_
    refine own_iadd X302 hx (v := (Int32.ofNat (F + 1))) (pc' := 18) rfl (hb hby d_prog_5_method_17_code_17) (own_addn F 1) ?_
    refine own_istore X302 hx (Ls' := #[.val (.ref a1), .val (.int p2), .val (.ref a3), .val (.ref a4), .val (.int (Int32.ofNat F)), .val (.int (3 : Int32)), .val (.int (own_row (Int32.ofNat (F + 0)) s1 s2 s3)), .val (.int (1 : Int32)), .val (.int (Int32.ofNat (F + 1)))]) (pc' := 20) rfl (hb hby d_prog_5_method_17_code_18) rfl ?_
    refine own_while X302 hx hby hZ e302 Arr_311 hfr (own_ge_row (own_nlt (F := F) (j := 0) (by omega))) (hlt 1 (by decide)) ?_
    refine own_aloadN X302 hx (pc' := 38) rfl (hb hby d_prog_5_method_17_code_37) rfl rfl ?_
    refine own_getF X302 hx hZ hown (host := "") (Or.inl (hw _ (List.mem_of_getElem? (i := 11) rfl))) Via.refl e302 Fld_305 (pc' := 41) rfl (hb hby d_prog_5_method_17_code_38) ?_
    intro T316 X316 e316
    refine own_iload X316 hx (pc' := 43) rfl (hb hby d_prog_5_method_17_code_41) rfl ?_
    refine own_iload X316 hx (pc' := 45) rfl (hb hby d_prog_5_method_17_code_43) rfl ?_
    refine own_stI X316 hx hZ e316 Arr_314 (k := 1) (by decide) (by decide) (by decide) (pc' := 46) rfl (hb hby d_prog_5_method_17_code_45) ?_
    intro T317 h317 X317 e317 W317 A317
    have Siz_318 := own_sizWr W317 Siz_303
    have Exa_319 := Exa.wr W317 Exa_304
    have Fld_320 := Fld.other W317 Fld_305 (Or.inl ne_a1_b1)
    have Fld_321 := Fld.other W317 Fld_306 (Or.inl ne_a1_b1)
    have Fld_322 := Fld.other W317 Fld_307 (Or.inl ne_a1_b1)
    have Fld_323 := Fld.other W317 Fld_308 (Or.inl ne_a1_b1)
    have Fld_324 := Fld.other W317 Fld_309 (Or.inl ne_a1_b1)
    have Fld_325 := Fld.other W317 Fld_310 (Or.inl ne_a1_b1)
    have Arr_326 := own_Arr.other W317 Arr_311 ne_a3_b1
    have Arr_327 := own_Arr.other W317 Arr_312 ne_a4_b1
    have Arr_329 := own_Arr.other W317 Arr_315 (Ne.symm ne_b1_b2)
    have Arr_330 := own_Arr.other W317 A302 (Ne.symm ne_b1_b3)
    have N317 := Fr.snoc X317 N302 ge_b1
    have K317 := Keep.wr K302 W317 (Or.inl (by simp))
    refine own_aloadN X317 hx (pc' := 47) rfl (hb hby d_prog_5_method_17_code_46) rfl rfl ?_
    refine own_getF X317 hx hZ hown (host := "") (Or.inl (hw _ (List.mem_of_getElem? (i := 13) rfl))) Via.refl e317 Fld_321 (pc' := 50) rfl (hb hby d_prog_5_method_17_code_47) ?_
    intro T331 X331 e331
    refine own_iload X331 hx (pc' := 52) rfl (hb hby d_prog_5_method_17_code_50) rfl ?_
    refine own_aloadN X331 hx (pc' := 53) rfl (hb hby d_prog_5_method_17_code_52) rfl rfl ?_
    refine own_iload X331 hx (pc' := 55) rfl (hb hby d_prog_5_method_17_code_53) rfl ?_
    refine own_ldI X331 hx hZ e331 Arr_327 (k := (F + 1)) (own_ix (by omega)).1 (own_ix (by omega)).2 (by omega) (v := (.int (cc + (1000 : Int32) * Int32.ofNat (F + 1)))) (hcol (F + 1) (by omega)) (pc' := 56) rfl (hb hby d_prog_5_method_17_code_55) ?_
    refine own_stI X331 hx hZ e331 Arr_329 (k := 1) (by decide) (by decide) (by decide) (pc' := 57) rfl (hb hby d_prog_5_method_17_code_56) ?_
    intro T332 h332 X332 e332 W332 A332
    have Siz_333 := own_sizWr W332 Siz_318
    have Exa_334 := Exa.wr W332 Exa_319
    have Fld_335 := Fld.other W332 Fld_320 (Or.inl ne_a1_b2)
    have Fld_336 := Fld.other W332 Fld_321 (Or.inl ne_a1_b2)
    have Fld_337 := Fld.other W332 Fld_322 (Or.inl ne_a1_b2)
    have Fld_338 := Fld.other W332 Fld_323 (Or.inl ne_a1_b2)
    have Fld_339 := Fld.other W332 Fld_324 (Or.inl ne_a1_b2)
    have Fld_340 := Fld.other W332 Fld_325 (Or.inl ne_a1_b2)
    have Arr_341 := own_Arr.other W332 Arr_326 ne_a3_b2
    have Arr_342 := own_Arr.other W332 Arr_327 ne_a4_b2
    have Arr_344 := own_Arr.other W332 Arr_330 (Ne.symm ne_b2_b3)
    have Arr_345 := own_Arr.other W332 A317 ne_b1_b2
    have N332 := Fr.snoc X332 N317 ge_b2
    have K332 := Keep.wr K317 W332 (Or.inl (by simp))
    refine own_aloadN X332 hx (pc' := 58) rfl (hb hby d_prog_5_method_17_code_57) rfl rfl ?_
    refine own_getF X332 hx hZ hown (host := "") (Or.inl (hw _ (List.mem_of_getElem? (i := 15) rfl))) Via.refl e332 Fld_337 (pc' := 61) rfl (hb hby d_prog_5_method_17_code_58) ?_
    intro T346 X346 e346
    refine own_iload X346 hx (pc' := 63) rfl (hb hby d_prog_5_method_17_code_61) rfl ?_
    refine own_iload X346 hx (pc' := 65) rfl (hb hby d_prog_5_method_17_code_63) rfl ?_
    refine own_stI X346 hx hZ e346 Arr_344 (k := 1) (by decide) (by decide) (by decide) (pc' := 66) rfl (hb hby d_prog_5_method_17_code_65) ?_
    intro T347 h347 X347 e347 W347 A347
    have Siz_348 := own_sizWr W347 Siz_333
    have Exa_349 := Exa.wr W347 Exa_334
    have Fld_350 := Fld.other W347 Fld_335 (Or.inl ne_a1_b3)
    have Fld_351 := Fld.other W347 Fld_336 (Or.inl ne_a1_b3)
    have Fld_352 := Fld.other W347 Fld_337 (Or.inl ne_a1_b3)
    have Fld_353 := Fld.other W347 Fld_338 (Or.inl ne_a1_b3)
    have Fld_354 := Fld.other W347 Fld_339 (Or.inl ne_a1_b3)
    have Fld_355 := Fld.other W347 Fld_340 (Or.inl ne_a1_b3)
    have Arr_356 := own_Arr.other W347 Arr_341 ne_a3_b3
    have Arr_357 := own_Arr.other W347 Arr_342 ne_a4_b3
    have Arr_359 := own_Arr.other W347 Arr_345 ne_b1_b3
    have Arr_360 := own_Arr.other W347 A332 ne_b2_b3
    have N347 := Fr.snoc X347 N332 ge_b3
    have K347 := Keep.wr K332 W347 (Or.inl (by simp))
    refine own_iinc X347 hx (v := (2 : Int32)) (Ls' := #[.val (.ref a1), .val (.int p2), .val (.ref a3), .val (.ref a4), .val (.int (Int32.ofNat F)), .val (.int (3 : Int32)), .val (.int (own_row (Int32.ofNat (F + 1)) s1 s2 s3)), .val (.int (2 : Int32)), .val (.int (Int32.ofNat (F + 1)))]) (pc' := 69) rfl (hb hby d_prog_5_method_17_code_66) rfl (by decide) rfl ?_
    refine own_goto X347 hx (pc' := 6) (hb hby d_prog_5_method_17_code_69) (by decide) (by decide) ?_
    refine own_iload X347 hx (pc' := 8) rfl (hb hby d_prog_5_method_17_code_6) rfl ?_
    refine own_iload X347 hx (pc' := 10) rfl (hb hby d_prog_5_method_17_code_8) rfl ?_
    refine own_icmpF X347 hx (pc' := 13) rfl (hb hby d_prog_5_method_17_code_10) (XT.ii_ge_f (by decide)) ?_
    refine own_iload X347 hx (pc' := 15) rfl (hb hby d_prog_5_method_17_code_13) rfl ?_
    refine own_iload X347 hx (pc' := 17) rfl (hb hby d_prog_5_method_17_code_15) rfl ?_
    refine own_iadd X347 hx (v := (Int32.ofNat (F + 2))) (pc' := 18) rfl (hb hby d_prog_5_method_17_code_17) (own_addn F 2) ?_
    refine own_istore X347 hx (Ls' := #[.val (.ref a1), .val (.int p2), .val (.ref a3), .val (.ref a4), .val (.int (Int32.ofNat F)), .val (.int (3 : Int32)), .val (.int (own_row (Int32.ofNat (F + 1)) s1 s2 s3)), .val (.int (2 : Int32)), .val (.int (Int32.ofNat (F + 2)))]) (pc' := 20) rfl (hb hby d_prog_5_method_17_code_18) rfl ?_
    refine own_while X347 hx hby hZ e347 Arr_356 hfr (own_ge_row (own_nlt (F := F) (j := 1) (by omega))) (hlt 2 (by decide)) ?_
    refine own_aloadN X347 hx (pc' := 38) rfl (hb hby d_prog_5_method_17_code_37) rfl rfl ?_
    refine own_getF X347 hx hZ hown (host := "") (Or.inl (hw _ (List.mem_of_getElem? (i := 11) rfl))) Via.refl e347 Fld_350 (pc' := 41) rfl (hb hby d_prog_5_method_17_code_38) ?_
    intro T361 X361 e361
    refine own_iload X361 hx (pc' := 43) rfl (hb hby d_prog_5_method_17_code_41) rfl ?_
    refine own_iload X361 hx (pc' := 45) rfl (hb hby d_prog_5_method_17_code_43) rfl ?_
    refine own_stI X361 hx hZ e361 Arr_359 (k := 2) (by decide) (by decide) (by decide) (pc' := 46) rfl (hb hby d_prog_5_method_17_code_45) ?_
    intro T362 h362 X362 e362 W362 A362
    have Siz_363 := own_sizWr W362 Siz_348
    have Exa_364 := Exa.wr W362 Exa_349
    have Fld_365 := Fld.other W362 Fld_350 (Or.inl ne_a1_b1)
    have Fld_366 := Fld.other W362 Fld_351 (Or.inl ne_a1_b1)
    have Fld_367 := Fld.other W362 Fld_352 (Or.inl ne_a1_b1)
    have Fld_368 := Fld.other W362 Fld_353 (Or.inl ne_a1_b1)
    have Fld_369 := Fld.other W362 Fld_354 (Or.inl ne_a1_b1)
    have Fld_370 := Fld.other W362 Fld_355 (Or.inl ne_a1_b1)
    have Arr_371 := own_Arr.other W362 Arr_356 ne_a3_b1
    have Arr_372 := own_Arr.other W362 Arr_357 ne_a4_b1
    have Arr_374 := own_Arr.other W362 Arr_360 (Ne.symm ne_b1_b2)
    have Arr_375 := own_Arr.other W362 A347 (Ne.symm ne_b1_b3)
    have N362 := Fr.snoc X362 N347 ge_b1
    have K362 := Keep.wr K347 W362 (Or.inl (by simp))
    refine own_aloadN X362 hx (pc' := 47) rfl (hb hby d_prog_5_method_17_code_46) rfl rfl ?_
    refine own_getF X362 hx hZ hown (host := "") (Or.inl (hw _ (List.mem_of_getElem? (i := 13) rfl))) Via.refl e362 Fld_366 (pc' := 50) rfl (hb hby d_prog_5_method_17_code_47) ?_
    intro T376 X376 e376
    refine own_iload X376 hx (pc' := 52) rfl (hb hby d_prog_5_method_17_code_50) rfl ?_
    refine own_aloadN X376 hx (pc' := 53) rfl (hb hby d_prog_5_method_17_code_52) rfl rfl ?_
    refine own_iload X376 hx (pc' := 55) rfl (hb hby d_prog_5_method_17_code_53) rfl ?_
    refine own_ldI X376 hx hZ e376 Arr_372 (k := (F + 2)) (own_ix (by omega)).1 (own_ix (by omega)).2 (by omega) (v := (.int (cc + (1000 : Int32) * Int32.ofNat (F + 2)))) (hcol (F + 2) (by omega)) (pc' := 56) rfl (hb hby d_prog_5_method_17_code_55) ?_
    refine own_stI X376 hx hZ e376 Arr_374 (k := 2) (by decide) (by decide) (by decide) (pc' := 57) rfl (hb hby d_prog_5_method_17_code_56) ?_
    intro T377 h377 X377 e377 W377 A377
    have Siz_378 := own_sizWr W377 Siz_363
    have Exa_379 := Exa.wr W377 Exa_364
    have Fld_380 := Fld.other W377 Fld_365 (Or.inl ne_a1_b2)
    have Fld_381 := Fld.other W377 Fld_366 (Or.inl ne_a1_b2)
    have Fld_382 := Fld.other W377 Fld_367 (Or.inl ne_a1_b2)
    have Fld_383 := Fld.other W377 Fld_368 (Or.inl ne_a1_b2)
    have Fld_384 := Fld.other W377 Fld_369 (Or.inl ne_a1_b2)
    have Fld_385 := Fld.other W377 Fld_370 (Or.inl ne_a1_b2)
    have Arr_386 := own_Arr.other W377 Arr_371 ne_a3_b2
    have Arr_387 := own_Arr.other W377 Arr_372 ne_a4_b2
    have Arr_389 := own_Arr.other W377 Arr_375 (Ne.symm ne_b2_b3)
    have Arr_390 := own_Arr.other W377 A362 ne_b1_b2
    have N377 := Fr.snoc X377 N362 ge_b2
    have K377 := Keep.wr K362 W377 (Or.inl (by simp))
    refine own_aloadN X377 hx (pc' := 58) rfl (hb hby d_prog_5_method_17_code_57) rfl rfl ?_
    refine own_getF X377 hx hZ hown (host := "") (Or.inl (hw _ (List.mem_of_getElem? (i := 15) rfl))) Via.refl e377 Fld_382 (pc' := 61) rfl (hb hby d_prog_5_method_17_code_58) ?_
    intro T391 X391 e391
    refine own_iload X391 hx (pc' := 63) rfl (hb hby d_prog_5_method_17_code_61) rfl ?_
    refine own_iload X391 hx (pc' := 65) rfl (hb hby d_prog_5_method_17_code_63) rfl ?_
    refine own_stI X391 hx hZ e391 Arr_389 (k := 2) (by decide) (by decide) (by decide) (pc' := 66) rfl (hb hby d_prog_5_method_17_code_65) ?_
    intro T392 h392 X392 e392 W392 A392
    have Siz_393 := own_sizWr W392 Siz_378
    have Exa_394 := Exa.wr W392 Exa_379
    have Fld_395 := Fld.other W392 Fld_380 (Or.inl ne_a1_b3)
    have Fld_396 := Fld.other W392 Fld_381 (Or.inl ne_a1_b3)
    have Fld_397 := Fld.other W392 Fld_382 (Or.inl ne_a1_b3)
    have Fld_398 := Fld.other W392 Fld_383 (Or.inl ne_a1_b3)
    have Fld_399 := Fld.other W392 Fld_384 (Or.inl ne_a1_b3)
    have Fld_400 := Fld.other W392 Fld_385 (Or.inl ne_a1_b3)
    have Arr_401 := own_Arr.other W392 Arr_386 ne_a3_b3
    have Arr_402 := own_Arr.other W392 Arr_387 ne_a4_b3
    have Arr_404 := own_Arr.other W392 Arr_390 ne_b1_b3
    have Arr_405 := own_Arr.other W392 A377 ne_b2_b3
    have N392 := Fr.snoc X392 N377 ge_b3
    have K392 := Keep.wr K377 W392 (Or.inl (by simp))
    refine own_iinc X392 hx (v := (3 : Int32)) (Ls' := #[.val (.ref a1), .val (.int p2), .val (.ref a3), .val (.ref a4), .val (.int (Int32.ofNat F)), .val (.int (3 : Int32)), .val (.int (own_row (Int32.ofNat (F + 2)) s1 s2 s3)), .val (.int (3 : Int32)), .val (.int (Int32.ofNat (F + 2)))]) (pc' := 69) rfl (hb hby d_prog_5_method_17_code_66) rfl (by decide) rfl ?_
    refine own_goto X392 hx (pc' := 6) (hb hby d_prog_5_method_17_code_69) (by decide) (by decide) ?_
    refine own_iload X392 hx (pc' := 8) rfl (hb hby d_prog_5_method_17_code_6) rfl ?_
    refine own_iload X392 hx (pc' := 10) rfl (hb hby d_prog_5_method_17_code_8) rfl ?_
    refine own_icmpT X392 hx (pc' := 72) (hb hby d_prog_5_method_17_code_10) (XT.ii_ge_t (by decide)) (by decide) (by decide) ?_
    refine own_aloadN X392 hx (pc' := 73) rfl (hb hby d_prog_5_method_17_code_72) rfl rfl ?_
    refine own_iload X392 hx (pc' := 75) rfl (hb hby d_prog_5_method_17_code_73) rfl ?_
    refine own_putF X392 hx hZ hown (host := "") (Or.inl (hw _ (List.mem_of_getElem? (i := 26) rfl))) Via.refl e392 Fld_398 Exa_394 (Or.inl (hw _ (List.mem_of_getElem? (i := 27) rfl))) (hw _ (List.mem_of_getElem? (i := 3) rfl)) (ty := .int) (by decide) rfl rfl (pc' := 78) rfl (hb hby d_prog_5_method_17_code_75) ?_
    intro T406 h406 X406 e406 W406
    have F407 := Fld.same W406 Fld_398
    have Siz_408 := own_sizWr W406 Siz_393
    have Exa_409 := Exa.wr W406 Exa_394
    have Fld_410 := Fld.other W406 Fld_395 (Or.inr (slot_ne (Or.inr (hw _ (List.mem_of_getElem? (i := 12) rfl))) (Or.inl (hw _ (List.mem_of_getElem? (i := 27) rfl))) (by decide) (t := (.array .int)) (t' := .int) (by decide) (by decide)))
    have Fld_411 := Fld.other W406 Fld_396 (Or.inr (slot_ne (Or.inr (hw _ (List.mem_of_getElem? (i := 14) rfl))) (Or.inl (hw _ (List.mem_of_getElem? (i := 27) rfl))) (by decide) (t := (.array .int)) (t' := .int) (by decide) (by decide)))
    have Fld_412 := Fld.other W406 Fld_397 (Or.inr (slot_ne (Or.inr (hw _ (List.mem_of_getElem? (i := 16) rfl))) (Or.inl (hw _ (List.mem_of_getElem? (i := 27) rfl))) (by decide) (t := (.array .int)) (t' := .int) (by decide) (by decide)))
    have Fld_414 := Fld.other W406 Fld_399 (Or.inr (slot_ne (Or.inl (hw _ (List.mem_of_getElem? (i := 29) rfl))) (Or.inl (hw _ (List.mem_of_getElem? (i := 27) rfl))) (by decide) (t := .boolean) (t' := .int) (by decide) (by decide)))
    have Fld_415 := Fld.other W406 Fld_400 (Or.inr (slot_ne (Or.inl (hw _ (List.mem_of_getElem? (i := 18) rfl))) (Or.inl (hw _ (List.mem_of_getElem? (i := 27) rfl))) (by decide) (t := .boolean) (t' := .int) (by decide) (by decide)))
    have Arr_416 := own_Arr.other W406 Arr_401 ne_a3_a1
    have Arr_417 := own_Arr.other W406 Arr_402 ne_a4_a1
    have Arr_418 := own_Arr.other W406 Arr_404 (Ne.symm ne_a1_b1)
    have Arr_419 := own_Arr.other W406 Arr_405 (Ne.symm ne_a1_b2)
    have Arr_420 := own_Arr.other W406 A392 (Ne.symm ne_a1_b3)
    have N406 := Fr.snoc X406 N392 ge_a1
    have K406 := Keep.wr K392 W406 (Or.inl (by simp))
    refine own_aloadN X406 hx (pc' := 79) rfl (hb hby d_prog_5_method_17_code_78) rfl rfl ?_
    refine own_iconst X406 hx (v := (0 : Int32)) (pc' := 80) rfl (hb hby d_prog_5_method_17_code_79) rfl ?_
    refine own_putF X406 hx hZ hown (host := "") (Or.inl (hw _ (List.mem_of_getElem? (i := 28) rfl))) Via.refl e406 Fld_414 Exa_409 (Or.inl (hw _ (List.mem_of_getElem? (i := 29) rfl))) (hw _ (List.mem_of_getElem? (i := 3) rfl)) (ty := .boolean) (by decide) rfl (by decide) (pc' := 83) rfl (hb hby d_prog_5_method_17_code_80) ?_
    intro T421 h421 X421 e421 W421
    have F422 := Fld.same W421 Fld_414
    have Siz_423 := own_sizWr W421 Siz_408
    have Exa_424 := Exa.wr W421 Exa_409
    have Fld_425 := Fld.other W421 Fld_410 (Or.inr (slot_ne (Or.inr (hw _ (List.mem_of_getElem? (i := 12) rfl))) (Or.inl (hw _ (List.mem_of_getElem? (i := 29) rfl))) (by decide) (t := (.array .int)) (t' := .boolean) (by decide) (by decide)))
    have Fld_426 := Fld.other W421 Fld_411 (Or.inr (slot_ne (Or.inr (hw _ (List.mem_of_getElem? (i := 14) rfl))) (Or.inl (hw _ (List.mem_of_getElem? (i := 29) rfl))) (by decide) (t := (.array .int)) (t' := .boolean) (by decide) (by decide)))
    have Fld_427 := Fld.other W421 Fld_412 (Or.inr (slot_ne (Or.inr (hw _ (List.mem_of_getElem? (i := 16) rfl))) (Or.inl (hw _ (List.mem_of_getElem? (i := 29) rfl))) (by decide) (t := (.array .int)) (t' := .boolean) (by decide) (by decide)))
    have Fld_429 := Fld.other W421 Fld_415 (Or.inr (slot_ne (Or.inl (hw _ (List.mem_of_getElem? (i := 18) rfl))) (Or.inl (hw _ (List.mem_of_getElem? (i := 29) rfl))) (by decide) (t := .boolean) (t' := .boolean) (by decide) (by decide)))
    have Arr_430 := own_Arr.other W421 Arr_416 ne_a3_a1
    have Arr_431 := own_Arr.other W421 Arr_417 ne_a4_a1
    have Arr_432 := own_Arr.other W421 Arr_418 (Ne.symm ne_a1_b1)
    have Arr_433 := own_Arr.other W421 Arr_419 (Ne.symm ne_a1_b2)
    have Arr_434 := own_Arr.other W421 Arr_420 (Ne.symm ne_a1_b3)
    have Fld_435 := Fld.other W421 F407 (Or.inr (slot_ne (Or.inl (hw _ (List.mem_of_getElem? (i := 27) rfl))) (Or.inl (hw _ (List.mem_of_getElem? (i := 29) rfl))) (by decide) (t := .int) (t' := .boolean) (by decide) (by decide)))
    have N421 := Fr.snoc X421 N406 ge_a1
    have K421 := Keep.wr K406 W421 (Or.inl (by simp))
    refine own_aloadN X421 hx (pc' := 84) rfl (hb hby d_prog_5_method_17_code_83) rfl rfl ?_
    refine own_iconst X421 hx (v := (1 : Int32)) (pc' := 85) rfl (hb hby d_prog_5_method_17_code_84) rfl ?_
    refine own_putF X421 hx hZ hown (host := "") (Or.inl (hw _ (List.mem_of_getElem? (i := 17) rfl))) Via.refl e421 Fld_429 Exa_424 (Or.inl (hw _ (List.mem_of_getElem? (i := 18) rfl))) (hw _ (List.mem_of_getElem? (i := 3) rfl)) (ty := .boolean) (by decide) rfl (by decide) (pc' := 88) rfl (hb hby d_prog_5_method_17_code_85) ?_
    intro T436 h436 X436 e436 W436
    have F437 := Fld.same W436 Fld_429
    have Siz_438 := own_sizWr W436 Siz_423
    have Exa_439 := Exa.wr W436 Exa_424
    have Fld_440 := Fld.other W436 Fld_425 (Or.inr (slot_ne (Or.inr (hw _ (List.mem_of_getElem? (i := 12) rfl))) (Or.inl (hw _ (List.mem_of_getElem? (i := 18) rfl))) (by decide) (t := (.array .int)) (t' := .boolean) (by decide) (by decide)))
    have Fld_441 := Fld.other W436 Fld_426 (Or.inr (slot_ne (Or.inr (hw _ (List.mem_of_getElem? (i := 14) rfl))) (Or.inl (hw _ (List.mem_of_getElem? (i := 18) rfl))) (by decide) (t := (.array .int)) (t' := .boolean) (by decide) (by decide)))
    have Fld_442 := Fld.other W436 Fld_427 (Or.inr (slot_ne (Or.inr (hw _ (List.mem_of_getElem? (i := 16) rfl))) (Or.inl (hw _ (List.mem_of_getElem? (i := 18) rfl))) (by decide) (t := (.array .int)) (t' := .boolean) (by decide) (by decide)))
    have Arr_444 := own_Arr.other W436 Arr_430 ne_a3_a1
    have Arr_445 := own_Arr.other W436 Arr_431 ne_a4_a1
    have Arr_446 := own_Arr.other W436 Arr_432 (Ne.symm ne_a1_b1)
    have Arr_447 := own_Arr.other W436 Arr_433 (Ne.symm ne_a1_b2)
    have Arr_448 := own_Arr.other W436 Arr_434 (Ne.symm ne_a1_b3)
    have Fld_449 := Fld.other W436 Fld_435 (Or.inr (slot_ne (Or.inl (hw _ (List.mem_of_getElem? (i := 27) rfl))) (Or.inl (hw _ (List.mem_of_getElem? (i := 18) rfl))) (by decide) (t := .int) (t' := .boolean) (by decide) (by decide)))
    have Fld_450 := Fld.other W436 F422 (Or.inr (slot_ne (Or.inl (hw _ (List.mem_of_getElem? (i := 29) rfl))) (Or.inl (hw _ (List.mem_of_getElem? (i := 18) rfl))) (by decide) (t := .boolean) (t' := .boolean) (by decide) (by decide)))
    have N436 := Fr.snoc X436 N421 ge_a1
    have K436 := Keep.wr K421 W436 (Or.inl (by simp))
    refine own_iload X436 hx (pc' := 90) rfl (hb hby d_prog_5_method_17_code_88) rfl ?_
    refine own_iret X436 hx hlk hret (hb hby d_prog_5_method_17_code_90) (by decide) (by decide) ?_
    rw [e436]
    exact ⟨rfl, N436, K436, Exa_439, Fld_440, Fld_441, Fld_442, Fld_449, Fld_450, F437, (own_Arr.congr Arr_446 (fun j _ => (own_ts (g := (fun j => own_row (Int32.ofNat (F + j)) s1 s2 s3)) (k := 2) (own_ts (g := (fun j => own_row (Int32.ofNat (F + j)) s1 s2 s3)) (k := 1) (own_ts (g := (fun j => own_row (Int32.ofNat (F + j)) s1 s2 s3)) (k := 0) (own_t0 (fun j => own_row (Int32.ofNat (F + j)) s1 s2 s3))))) j)), (own_Arr.congr Arr_447 (fun j _ => (own_ts (g := (fun j => cc + (1000 : Int32) * Int32.ofNat (F + j))) (k := 2) (own_ts (g := (fun j => cc + (1000 : Int32) * Int32.ofNat (F + j))) (k := 1) (own_ts (g := (fun j => cc + (1000 : Int32) * Int32.ofNat (F + j))) (k := 0) (own_t0 (fun j => cc + (1000 : Int32) * Int32.ofNat (F + j)))))) j)), (own_Arr.congr Arr_448 (fun j _ => (own_ts (g := (fun j => Int32.ofNat (F + j))) (k := 2) (own_ts (g := (fun j => Int32.ofNat (F + j))) (k := 1) (own_ts (g := (fun j => Int32.ofNat (F + j))) (k := 0) (own_t0 (fun j => Int32.ofNat (F + j)))))) j))⟩
theorem ef_rm_isrun (m : MethodId) (a1 : Addr) : entryFrame m #[(.ref a1)] 1 = mkF m 0 #[.val (.ref a1)] [] := by first | (simp [entryFrame, mkF, argsToLocals, Value.category]; done) | rfl
def K_rm_isrun  (Z : State) (h0 : Heap) (n0 : Nat) (a1 : Addr) (v : Option Value) (h : Heap) (L : List Loc) : Prop := v = some (.int (0 : Int32)) ∧ Fr n0 L ∧ h = h0
theorem d_prog_5_method_7_code_0 : decode prog_5_method_7_code 0 = .ok (.aload_n 0, 1) := by decide +kernel
theorem d_prog_5_method_7_code_1 : decode prog_5_method_7_code 1 = .ok (.getfield 33, 3) := by decide +kernel
theorem d_prog_5_method_7_code_4 : decode prog_5_method_7_code 4 = .ok (.ireturn, 1) := by decide +kernel
set_option maxRecDepth 65536 in
set_option maxHeartbeats 40000000 in
theorem rm_isrun (l : Launch) (Z : State) (a0 : Array Value) (hw : ∀ d ∈ tables_1, d.before a0 Z = true) (ws : List Jvm.Cond)  (a1 : Addr) (h0 : Heap) (n0 : Nat) (Z0 : n0 ≤ h0.size) (I0 : Exa Z h0 a1 "com/example/ferrule/ferrule/fusion/CellKernel$Batch") (I1 : Fld Z h0 a1 "com/example/ferrule/ferrule/fusion/CellKernel$Batch" "run" "Z" (.int (0 : Int32))) :
    MetFree l (⟨"com/example/ferrule/ferrule/fusion/CellKernel$Batch", "isRun", "()Z"⟩ : MethodName) (head1 (Jvm.Cond.code (⟨"com/example/ferrule/ferrule/fusion/CellKernel$Batch", "isRun", "()Z"⟩ : MethodName) prog_5_method_7_code 1 (some .boolean) :: ws) ({ frames := 0, cells := 0, slots := 0, locals := 0 } : Room)) (fun a U => a = #[(.ref a1)] ∧ Z.Warmed39 U.vm ∧ U.heap = h0) (fun _ _ _ _ _ => True) (fun _ U o U' => ∃ v L, o = .returned v ∧ (K_rm_isrun  Z h0 n0 a1) v U'.heap L ∧ FrameEnd U o U' L ({ frames := 0, cells := 0, slots := 0, locals := 0 } : Room).cells ({ frames := 0, cells := 0, slots := 0, locals := 0 } : Room).slots) := by
  refine own_body (plainFor_of_name pn_com_example_ferrule_ferrule_fusion_CellKernel_Batch) ?_
  intro p e s m below meth c s₁ hx hby hml hown hnm hret hlk hZ X0 e0
  have hown : s.vm.findClass "com/example/ferrule/ferrule/fusion/CellKernel$Batch" = some m.cls := hown
  have N0 := Fr.nil n0
  rw [ef_rm_isrun m a1]
  refine own_aloadN X0 hx (pc' := 1) rfl (hb hby d_prog_5_method_7_code_0) rfl rfl ?_
  refine own_getF X0 hx hZ hown (host := "") (Or.inl (hw _ (List.mem_of_getElem? (i := 28) rfl))) Via.refl e0 I1 (pc' := 4) rfl (hb hby d_prog_5_method_7_code_1) ?_
  intro T1 X1 e1
  refine own_zret X1 hx hlk hret (by simp) (hb hby d_prog_5_method_7_code_4) (by decide) (by decide) ?_
  rw [e1]
  exact ⟨rfl, N0, rfl⟩
theorem ef_rm_list (m : MethodId) (a1 : Addr) : entryFrame m #[(.ref a1)] 4 = mkF m 0 #[.val (.ref a1), .unset, .unset, .unset] [] := by first | (simp [entryFrame, mkF, argsToLocals, Value.category]; done) | rfl
def K_rm_list  (Z : State) (h0 : Heap) (n0 : Nat) (a1 : Addr) (v : Option Value) (h : Heap) (L : List Loc) : Prop := v = none ∧ Fr n0 L ∧ h = h0
theorem d_prog_5_method_15_code_0 : decode prog_5_method_15_code 0 = .ok (.aload_n 0, 1) := by decide +kernel
theorem d_prog_5_method_15_code_1 : decode prog_5_method_15_code 1 = .ok (.getfield 22, 3) := by decide +kernel
theorem d_prog_5_method_15_code_4 : decode prog_5_method_15_code 4 = .ok (.ifCond .eq 4, 3) := by decide +kernel
theorem d_prog_5_method_15_code_7 : decode prog_5_method_15_code 7 = .ok (.return_, 1) := by decide +kernel
set_option maxRecDepth 65536 in
set_option maxHeartbeats 40000000 in
theorem rm_list (l : Launch) (Z : State) (a0 : Array Value) (hw : ∀ d ∈ tables_1, d.before a0 Z = true) (ws : List Jvm.Cond)  (a1 : Addr) (h0 : Heap) (n0 : Nat) (Z0 : n0 ≤ h0.size) (I0 : Exa Z h0 a1 "com/example/ferrule/ferrule/fusion/CellKernel$Batch") (I1 : Fld Z h0 a1 "com/example/ferrule/ferrule/fusion/CellKernel$Batch" "listed" "Z" (.int (1 : Int32))) :
    MetFree l (⟨"com/example/ferrule/ferrule/fusion/CellKernel$Batch", "list", "()V"⟩ : MethodName) (head1 (Jvm.Cond.code (⟨"com/example/ferrule/ferrule/fusion/CellKernel$Batch", "list", "()V"⟩ : MethodName) prog_5_method_15_code 4 none :: ws) ({ frames := 0, cells := 0, slots := 0, locals := 0 } : Room)) (fun a U => a = #[(.ref a1)] ∧ Z.Warmed39 U.vm ∧ U.heap = h0) (fun _ _ _ _ _ => True) (fun _ U o U' => ∃ v L, o = .returned v ∧ (K_rm_list  Z h0 n0 a1) v U'.heap L ∧ FrameEnd U o U' L ({ frames := 0, cells := 0, slots := 0, locals := 0 } : Room).cells ({ frames := 0, cells := 0, slots := 0, locals := 0 } : Room).slots) := by
  refine own_body (plainFor_of_name pn_com_example_ferrule_ferrule_fusion_CellKernel_Batch) ?_
  intro p e s m below meth c s₁ hx hby hml hown hnm hret hlk hZ X0 e0
  have hown : s.vm.findClass "com/example/ferrule/ferrule/fusion/CellKernel$Batch" = some m.cls := hown
  have N0 := Fr.nil n0
  rw [ef_rm_list m a1]
  refine own_aloadN X0 hx (pc' := 1) rfl (hb hby d_prog_5_method_15_code_0) rfl rfl ?_
  refine own_getF X0 hx hZ hown (host := "") (Or.inl (hw _ (List.mem_of_getElem? (i := 17) rfl))) Via.refl e0 I1 (pc' := 4) rfl (hb hby d_prog_5_method_15_code_1) ?_
  intro T1 X1 e1
  refine own_ifF X1 hx (pc' := 7) rfl (hb hby d_prog_5_method_15_code_4) (XT.i0_eq_f (by decide)) ?_
  refine own_ret X1 hx hlk hret (hb hby d_prog_5_method_15_code_7) (by decide) (by decide) ?_
  rw [e1]
  exact ⟨rfl, N0, rfl⟩
theorem ef_rm_rows (m : MethodId) (a1 : Addr) : entryFrame m #[(.ref a1)] 1 = mkF m 0 #[.val (.ref a1)] [] := by first | (simp [entryFrame, mkF, argsToLocals, Value.category]; done) | rfl
def K_rm_rows (b1 : Addr) (Z : State) (h0 : Heap) (n0 : Nat) (a1 : Addr) (v : Option Value) (h : Heap) (L : List Loc) : Prop := v = some (.ref b1) ∧ Fr n0 L ∧ h = h0
theorem d_prog_5_method_13_code_0 : decode prog_5_method_13_code 0 = .ok (.aload_n 0, 1) := by decide +kernel
theorem d_prog_5_method_13_code_1 : decode prog_5_method_13_code 1 = .ok (.invokevirtual 58, 3) := by decide +kernel
theorem pd___V : parseMethodDescriptor "()V" = some ⟨[], none⟩ := by decide +kernel
theorem d_prog_5_method_13_code_4 : decode prog_5_method_13_code 4 = .ok (.aload_n 0, 1) := by decide +kernel
theorem d_prog_5_method_13_code_5 : decode prog_5_method_13_code 5 = .ok (.getfield 12, 3) := by decide +kernel
theorem d_prog_5_method_13_code_8 : decode prog_5_method_13_code 8 = .ok (.areturn, 1) := by decide +kernel
set_option maxRecDepth 65536 in
set_option maxHeartbeats 40000000 in
theorem rm_rows (l : Launch) (Z : State) (a0 : Array Value) (hw : ∀ d ∈ tables_1, d.before a0 Z = true) (ws : List Jvm.Cond) (b1 : Addr) (a1 : Addr) (h0 : Heap) (n0 : Nat) (Z0 : n0 ≤ h0.size) (I0 : Exa Z h0 a1 "com/example/ferrule/ferrule/fusion/CellKernel$Batch") (I1 : Fld Z h0 a1 "com/example/ferrule/ferrule/fusion/CellKernel$Batch" "listed" "Z" (.int (1 : Int32))) (I2 : Fld Z h0 a1 "com/example/ferrule/ferrule/fusion/CellKernel$Batch" "rows" "[I" (.ref b1)) :
    MetFree l (⟨"com/example/ferrule/ferrule/fusion/CellKernel$Batch", "rows", "()[I"⟩ : MethodName) (head1 (Jvm.Cond.code (⟨"com/example/ferrule/ferrule/fusion/CellKernel$Batch", "rows", "()[I"⟩ : MethodName) prog_5_method_13_code 1 (some (.array .int)) :: ws) ({ frames := 1, cells := 0, slots := 0, locals := 15 } : Room)) (fun a U => a = #[(.ref a1)] ∧ Z.Warmed39 U.vm ∧ U.heap = h0) (fun _ _ _ _ _ => True) (fun _ U o U' => ∃ v L, o = .returned v ∧ (K_rm_rows b1 Z h0 n0 a1) v U'.heap L ∧ FrameEnd U o U' L ({ frames := 1, cells := 0, slots := 0, locals := 15 } : Room).cells ({ frames := 1, cells := 0, slots := 0, locals := 15 } : Room).slots) := by
  refine own_body (plainFor_of_name pn_com_example_ferrule_ferrule_fusion_CellKernel_Batch) ?_
  intro p e s m below meth c s₁ hx hby hml hown hnm hret hlk hZ X0 e0
  have hown : s.vm.findClass "com/example/ferrule/ferrule/fusion/CellKernel$Batch" = some m.cls := hown
  have N0 := Fr.nil n0
  rw [ef_rm_rows m a1]
  refine own_aloadN X0 hx (pc' := 1) rfl (hb hby d_prog_5_method_13_code_0) rfl rfl ?_
  refine own_callP X0 hx hZ (y := (⟨"com/example/ferrule/ferrule/fusion/CellKernel$Batch", "list", "()V"⟩ : MethodName)) hown (hw _ (List.mem_of_getElem? (i := 52) rfl)) (hw _ (List.mem_of_getElem? (i := 53) rfl)) (hw _ (List.mem_of_getElem? (i := 54) rfl)) (hw _ (List.mem_of_getElem? (i := 24) rfl)) rfl (hw _ (List.mem_of_getElem? (i := 4) rfl)) (hw _ (List.mem_of_getElem? (i := 55) rfl)) I0  (by decide) (rm_list l Z a0 hw [] a1 h0 n0 Z0 I0 I1) (by decide) (W := 0) (by decide) (by decide) (by decide) e0 (by rw [hml]; rfl) (argsL := []) (rest := []) rfl (lenOf pd___V rfl) rfl (Nat.le_of_eq rfl) (pc' := 4) rfl (hb hby d_prog_5_method_13_code_1) ?_
  rintro _ T1 L1 X1 ⟨rfl, N1, e1⟩
  have M1 := Fr.app N0 N1
  show own_Goes p e below T1 (mkF m 4 #[.val (.ref a1)] []) (own_Ret s (K_rm_rows b1 Z h0 n0 a1) ({ frames := 1, cells := 0, slots := 0, locals := 15 } : Room).cells ({ frames := 1, cells := 0, slots := 0, locals := 15 } : Room).slots)
  refine own_aloadN X1 hx (pc' := 5) rfl (hb hby d_prog_5_method_13_code_4) rfl rfl ?_
  refine own_getF X1 hx hZ hown (host := "") (Or.inl (hw _ (List.mem_of_getElem? (i := 11) rfl))) Via.refl e1 I2 (pc' := 8) rfl (hb hby d_prog_5_method_13_code_5) ?_
  intro T2 X2 e2
  refine own_aret X2 hx hlk hret rfl rfl (hb hby d_prog_5_method_13_code_8) (by decide) (by decide) ?_
  rw [e2]
  exact ⟨rfl, M1, rfl⟩
theorem ef_rm_cols (m : MethodId) (a1 : Addr) : entryFrame m #[(.ref a1)] 1 = mkF m 0 #[.val (.ref a1)] [] := by first | (simp [entryFrame, mkF, argsToLocals, Value.category]; done) | rfl
def K_rm_cols (b1 : Addr) (Z : State) (h0 : Heap) (n0 : Nat) (a1 : Addr) (v : Option Value) (h : Heap) (L : List Loc) : Prop := v = some (.ref b1) ∧ Fr n0 L ∧ h = h0
theorem d_prog_5_method_14_code_0 : decode prog_5_method_14_code 0 = .ok (.aload_n 0, 1) := by decide +kernel
theorem d_prog_5_method_14_code_1 : decode prog_5_method_14_code 1 = .ok (.invokevirtual 58, 3) := by decide +kernel
theorem d_prog_5_method_14_code_4 : decode prog_5_method_14_code 4 = .ok (.aload_n 0, 1) := by decide +kernel
theorem d_prog_5_method_14_code_5 : decode prog_5_method_14_code 5 = .ok (.getfield 16, 3) := by decide +kernel
theorem d_prog_5_method_14_code_8 : decode prog_5_method_14_code 8 = .ok (.areturn, 1) := by decide +kernel
set_option maxRecDepth 65536 in
set_option maxHeartbeats 40000000 in
theorem rm_cols (l : Launch) (Z : State) (a0 : Array Value) (hw : ∀ d ∈ tables_1, d.before a0 Z = true) (ws : List Jvm.Cond) (b1 : Addr) (a1 : Addr) (h0 : Heap) (n0 : Nat) (Z0 : n0 ≤ h0.size) (I0 : Exa Z h0 a1 "com/example/ferrule/ferrule/fusion/CellKernel$Batch") (I1 : Fld Z h0 a1 "com/example/ferrule/ferrule/fusion/CellKernel$Batch" "listed" "Z" (.int (1 : Int32))) (I2 : Fld Z h0 a1 "com/example/ferrule/ferrule/fusion/CellKernel$Batch" "cols" "[I" (.ref b1)) :
    MetFree l (⟨"com/example/ferrule/ferrule/fusion/CellKernel$Batch", "cols", "()[I"⟩ : MethodName) (head1 (Jvm.Cond.code (⟨"com/example/ferrule/ferrule/fusion/CellKernel$Batch", "cols", "()[I"⟩ : MethodName) prog_5_method_14_code 1 (some (.array .int)) :: ws) ({ frames := 1, cells := 0, slots := 0, locals := 15 } : Room)) (fun a U => a = #[(.ref a1)] ∧ Z.Warmed39 U.vm ∧ U.heap = h0) (fun _ _ _ _ _ => True) (fun _ U o U' => ∃ v L, o = .returned v ∧ (K_rm_cols b1 Z h0 n0 a1) v U'.heap L ∧ FrameEnd U o U' L ({ frames := 1, cells := 0, slots := 0, locals := 15 } : Room).cells ({ frames := 1, cells := 0, slots := 0, locals := 15 } : Room).slots) := by
  refine own_body (plainFor_of_name pn_com_example_ferrule_ferrule_fusion_CellKernel_Batch) ?_
  intro p e s m below meth c s₁ hx hby hml hown hnm hret hlk hZ X0 e0
  have hown : s.vm.findClass "com/example/ferrule/ferrule/fusion/CellKernel$Batch" = some m.cls := hown
  have N0 := Fr.nil n0
  rw [ef_rm_cols m a1]
  refine own_aloadN X0 hx (pc' := 1) rfl (hb hby d_prog_5_method_14_code_0) rfl rfl ?_
  refine own_callP X0 hx hZ (y := (⟨"com/example/ferrule/ferrule/fusion/CellKernel$Batch", "list", "()V"⟩ : MethodName)) hown (hw _ (List.mem_of_getElem? (i := 52) rfl)) (hw _ (List.mem_of_getElem? (i := 53) rfl)) (hw _ (List.mem_of_getElem? (i := 54) rfl)) (hw _ (List.mem_of_getElem? (i := 24) rfl)) rfl (hw _ (List.mem_of_getElem? (i := 4) rfl)) (hw _ (List.mem_of_getElem? (i := 55) rfl)) I0  (by decide) (rm_list l Z a0 hw [] a1 h0 n0 Z0 I0 I1) (by decide) (W := 0) (by decide) (by decide) (by decide) e0 (by rw [hml]; rfl) (argsL := []) (rest := []) rfl (lenOf pd___V rfl) rfl (Nat.le_of_eq rfl) (pc' := 4) rfl (hb hby d_prog_5_method_14_code_1) ?_
  rintro _ T1 L1 X1 ⟨rfl, N1, e1⟩
  have M1 := Fr.app N0 N1
  show own_Goes p e below T1 (mkF m 4 #[.val (.ref a1)] []) (own_Ret s (K_rm_cols b1 Z h0 n0 a1) ({ frames := 1, cells := 0, slots := 0, locals := 15 } : Room).cells ({ frames := 1, cells := 0, slots := 0, locals := 15 } : Room).slots)
  refine own_aloadN X1 hx (pc' := 5) rfl (hb hby d_prog_5_method_14_code_4) rfl rfl ?_
  refine own_getF X1 hx hZ hown (host := "") (Or.inl (hw _ (List.mem_of_getElem? (i := 13) rfl))) Via.refl e1 I2 (pc' := 8) rfl (hb hby d_prog_5_method_14_code_5) ?_
  intro T2 X2 e2
  refine own_aret X2 hx hlk hret rfl rfl (hb hby d_prog_5_method_14_code_8) (by decide) (by decide) ?_
  rw [e2]
  exact ⟨rfl, M1, rfl⟩
theorem ef_rm_rowof (m : MethodId) (p1 : Int32) (p2 : Int32) (p3 : Int32) (p4 : Int32) : entryFrame m #[(.int p1), (.int p2), (.int p3), (.int p4)] 4 = mkF m 0 #[.val (.int p1), .val (.int p2), .val (.int p3), .val (.int p4)] [] := by first | (simp [entryFrame, mkF, argsToLocals, Value.category]; done) | rfl
def K_rm_rowof  (Z : State) (h0 : Heap) (n0 : Nat) (p1 : Int32) (p2 : Int32) (p3 : Int32) (p4 : Int32) (v : Option Value) (h : Heap) (L : List Loc) : Prop := v = some (.int (own_row p1 p2 p3 p4)) ∧ Fr n0 L ∧ h = h0
theorem d_method_3_code_0 : decode method_3_code 0 = .ok (.iload_n 0, 1) := by decide +kernel
theorem d_method_3_code_1 : decode method_3_code 1 = .ok (.iload_n 1, 1) := by decide +kernel
theorem d_method_3_code_2 : decode method_3_code 2 = .ok (.if_icmp .ge 5, 3) := by decide +kernel
theorem d_method_3_code_5 : decode method_3_code 5 = .ok (.iconst 0, 1) := by decide +kernel
theorem d_method_3_code_6 : decode method_3_code 6 = .ok (.ireturn, 1) := by decide +kernel
theorem d_method_3_code_7 : decode method_3_code 7 = .ok (.iload_n 0, 1) := by decide +kernel
theorem d_method_3_code_8 : decode method_3_code 8 = .ok (.iload_n 2, 1) := by decide +kernel
theorem d_method_3_code_9 : decode method_3_code 9 = .ok (.if_icmp .ge 5, 3) := by decide +kernel
theorem d_method_3_code_12 : decode method_3_code 12 = .ok (.iconst 1, 1) := by decide +kernel
theorem d_method_3_code_13 : decode method_3_code 13 = .ok (.ireturn, 1) := by decide +kernel
theorem d_method_3_code_14 : decode method_3_code 14 = .ok (.iload_n 0, 1) := by decide +kernel
theorem d_method_3_code_15 : decode method_3_code 15 = .ok (.iload_n 3, 1) := by decide +kernel
theorem d_method_3_code_16 : decode method_3_code 16 = .ok (.if_icmp .ge 5, 3) := by decide +kernel
theorem d_method_3_code_19 : decode method_3_code 19 = .ok (.iconst 2, 1) := by decide +kernel
theorem d_method_3_code_20 : decode method_3_code 20 = .ok (.ireturn, 1) := by decide +kernel
theorem d_method_3_code_21 : decode method_3_code 21 = .ok (.iconst 3, 1) := by decide +kernel
theorem d_method_3_code_22 : decode method_3_code 22 = .ok (.ireturn, 1) := by decide +kernel
theorem pn_com_example_ferrule_ferrule_fusion_BatchTakeAcrossRowsPinLaw : plainName "com/example/ferrule/ferrule/fusion/BatchTakeAcrossRowsPinLaw" = true := by first | (simp [plainName, overriddenIn]; done) | decide +kernel
set_option maxRecDepth 65536 in
set_option maxHeartbeats 40000000 in
theorem rm_rowof (l : Launch) (Z : State) (a0 : Array Value) (hw : ∀ d ∈ tables_1, d.before a0 Z = true) (ws : List Jvm.Cond)  (p1 : Int32) (p2 : Int32) (p3 : Int32) (p4 : Int32) (h0 : Heap) (n0 : Nat) (Z0 : n0 ≤ h0.size) :
    MetFree l (⟨"com/example/ferrule/ferrule/fusion/BatchTakeAcrossRowsPinLaw", "rowOf", "(IIII)I"⟩ : MethodName) (head1 (Jvm.Cond.code (⟨"com/example/ferrule/ferrule/fusion/BatchTakeAcrossRowsPinLaw", "rowOf", "(IIII)I"⟩ : MethodName) method_3_code 4 (some .int) :: ws) ({ frames := 0, cells := 0, slots := 0, locals := 0 } : Room)) (fun a U => a = #[(.int p1), (.int p2), (.int p3), (.int p4)] ∧ Z.Warmed39 U.vm ∧ U.heap = h0) (fun _ _ _ _ _ => True) (fun _ U o U' => ∃ v L, o = .returned v ∧ (K_rm_rowof  Z h0 n0 p1 p2 p3 p4) v U'.heap L ∧ FrameEnd U o U' L ({ frames := 0, cells := 0, slots := 0, locals := 0 } : Room).cells ({ frames := 0, cells := 0, slots := 0, locals := 0 } : Room).slots) := by
  refine own_body (plainFor_of_name pn_com_example_ferrule_ferrule_fusion_BatchTakeAcrossRowsPinLaw) ?_
  intro p e s m below meth c s₁ hx hby hml hown hnm hret hlk hZ X0 e0
  have hown : s.vm.findClass "com/example/ferrule/ferrule/fusion/BatchTakeAcrossRowsPinLaw" = some m.cls := hown
  have N0 := Fr.nil n0
  rw [ef_rm_rowof m p1 p2 p3 p4]
  refine own_iloadN X0 hx (pc' := 1) rfl (hb hby d_method_3_code_0) rfl ?_
  refine own_iloadN X0 hx (pc' := 2) rfl (hb hby d_method_3_code_1) rfl ?_
  by_cases c2_1 : p1 < p2
  · refine own_icmpF X0 hx (pc' := 5) rfl (hb hby d_method_3_code_2) (XT.ii_ge_f c2_1) ?_
    refine own_iconst X0 hx (v := (0 : Int32)) (pc' := 6) rfl (hb hby d_method_3_code_5) rfl ?_
    refine own_iret X0 hx hlk hret (hb hby d_method_3_code_6) (by decide) (by decide) ?_
    rw [e0]
    exact ⟨by first | (simp only [own_row, if_pos c2_1]; done) | (simp only [own_row, if_pos c2_1]; rfl), N0, rfl⟩
  · refine own_icmpT X0 hx (pc' := 7) (hb hby d_method_3_code_2) (XT.ii_ge_t c2_1) (by decide) (by decide) ?_
    refine own_iloadN X0 hx (pc' := 8) rfl (hb hby d_method_3_code_7) rfl ?_
    refine own_iloadN X0 hx (pc' := 9) rfl (hb hby d_method_3_code_8) rfl ?_
    by_cases c9_2 : p1 < p3
    · refine own_icmpF X0 hx (pc' := 12) rfl (hb hby d_method_3_code_9) (XT.ii_ge_f c9_2) ?_
      refine own_iconst X0 hx (v := (1 : Int32)) (pc' := 13) rfl (hb hby d_method_3_code_12) rfl ?_
      refine own_iret X0 hx hlk hret (hb hby d_method_3_code_13) (by decide) (by decide) ?_
      rw [e0]
      exact ⟨by first | (simp only [own_row, if_neg c2_1, if_pos c9_2]; done) | (simp only [own_row, if_neg c2_1, if_pos c9_2]; rfl), N0, rfl⟩
    · refine own_icmpT X0 hx (pc' := 14) (hb hby d_method_3_code_9) (XT.ii_ge_t c9_2) (by decide) (by decide) ?_
      refine own_iloadN X0 hx (pc' := 15) rfl (hb hby d_method_3_code_14) rfl ?_
      refine own_iloadN X0 hx (pc' := 16) rfl (hb hby d_method_3_code_15) rfl ?_
      by_cases c16_3 : p1 < p4
      · refine own_icmpF X0 hx (pc' := 19) rfl (hb hby d_method_3_code_16) (XT.ii_ge_f c16_3) ?_
        refine own_iconst X0 hx (v := (2 : Int32)) (pc' := 20) rfl (hb hby d_method_3_code_19) rfl ?_
        refine own_iret X0 hx hlk hret (hb hby d_method_3_code_20) (by decide) (by decide) ?_
        rw [e0]
        exact ⟨by first | (simp only [own_row, if_neg c2_1, if_neg c9_2, if_pos c16_3]; done) | (simp only [own_row, if_neg c2_1, if_neg c9_2, if_pos c16_3]; rfl), N0, rfl⟩
      · refine own_icmpT X0 hx (pc' := 21) (hb hby d_method_3_code_16) (XT.ii_ge_t c16_3) (by decide) (by decide) ?_
        refine own_iconst X0 hx (v := (3 : Int32)) (pc' := 22) rfl (hb hby d_method_3_code_21) rfl ?_
        refine own_iret X0 hx hlk hret (hb hby d_method_3_code_22) (by decide) (by decide) ?_
        rw [e0]
        exact ⟨by first | (simp only [own_row, if_neg c2_1, if_neg c9_2, if_neg c16_3]; done) | (simp only [own_row, if_neg c2_1, if_neg c9_2, if_neg c16_3]; rfl), N0, rfl⟩
theorem ef_rm_cell (m : MethodId) (p1 : Int32) (p2 : Int32) (p3 : Int32) (p4 : Int32) (p5 : Int32) (p6 : Int32) (p7 : Int32) (a8 : Addr) (a9 : Addr) (a10 : Addr) : entryFrame m #[(.int p1), (.int p2), (.int p3), (.int p4), (.int p5), (.int p6), (.int p7), (.ref a8), (.ref a9), (.ref a10)] 11 = mkF m 0 #[.val (.int p1), .val (.int p2), .val (.int p3), .val (.int p4), .val (.int p5), .val (.int p6), .val (.int p7), .val (.ref a8), .val (.ref a9), .val (.ref a10), .unset] [] := by first | (simp [entryFrame, mkF, argsToLocals, Value.category]; done) | rfl
def K_rm_cell (k : Nat) (N : Nat) (F : Nat) (Z : State) (h0 : Heap) (n0 : Nat) (p1 : Int32) (p2 : Int32) (p3 : Int32) (p4 : Int32) (p5 : Int32) (p6 : Int32) (p7 : Int32) (a8 : Addr) (a9 : Addr) (a10 : Addr) (v : Option Value) (h : Heap) (L : List Loc) : Prop := v = some (.int (1 : Int32)) ∧ Fr n0 L ∧ h = h0
theorem d_method_4_code_0 : decode method_4_code 0 = .ok (.iload_n 0, 1) := by decide +kernel
theorem d_method_4_code_1 : decode method_4_code 1 = .ok (.iload_n 1, 1) := by decide +kernel
theorem d_method_4_code_2 : decode method_4_code 2 = .ok (.if_icmp .lt 5, 3) := by decide +kernel
theorem d_method_4_code_7 : decode method_4_code 7 = .ok (.iload_n 2, 1) := by decide +kernel
theorem d_method_4_code_8 : decode method_4_code 8 = .ok (.iload_n 0, 1) := by decide +kernel
theorem d_method_4_code_9 : decode method_4_code 9 = .ok (.iadd, 1) := by decide +kernel
theorem d_method_4_code_10 : decode method_4_code 10 = .ok (.istore 10, 2) := by decide +kernel
theorem d_method_4_code_12 : decode method_4_code 12 = .ok (.aload 7, 2) := by decide +kernel
theorem d_method_4_code_14 : decode method_4_code 14 = .ok (.iload_n 0, 1) := by decide +kernel
theorem d_method_4_code_15 : decode method_4_code 15 = .ok (.iaload, 1) := by decide +kernel
theorem d_method_4_code_16 : decode method_4_code 16 = .ok (.iload 10, 2) := by decide +kernel
theorem d_method_4_code_18 : decode method_4_code 18 = .ok (.iload 4, 2) := by decide +kernel
theorem d_method_4_code_20 : decode method_4_code 20 = .ok (.iload 5, 2) := by decide +kernel
theorem d_method_4_code_22 : decode method_4_code 22 = .ok (.iload 6, 2) := by decide +kernel
theorem d_method_4_code_24 : decode method_4_code 24 = .ok (.invokestatic 40, 3) := by decide +kernel
theorem pd__IIII_I : parseMethodDescriptor "(IIII)I" = some ⟨[.int, .int, .int, .int], some .int⟩ := by decide +kernel
theorem d_method_4_code_27 : decode method_4_code 27 = .ok (.if_icmp .ne 31, 3) := by decide +kernel
theorem d_method_4_code_30 : decode method_4_code 30 = .ok (.aload 8, 2) := by decide +kernel
theorem d_method_4_code_32 : decode method_4_code 32 = .ok (.iload_n 0, 1) := by decide +kernel
theorem d_method_4_code_33 : decode method_4_code 33 = .ok (.iaload, 1) := by decide +kernel
theorem d_method_4_code_34 : decode method_4_code 34 = .ok (.iload_n 3, 1) := by decide +kernel
theorem d_method_4_code_35 : decode method_4_code 35 = .ok (.sipush 1000, 3) := by decide +kernel
theorem d_method_4_code_38 : decode method_4_code 38 = .ok (.iload 10, 2) := by decide +kernel
theorem d_method_4_code_40 : decode method_4_code 40 = .ok (.imul, 1) := by decide +kernel
theorem d_method_4_code_41 : decode method_4_code 41 = .ok (.iadd, 1) := by decide +kernel
theorem d_method_4_code_42 : decode method_4_code 42 = .ok (.if_icmp .ne 16, 3) := by decide +kernel
theorem d_method_4_code_45 : decode method_4_code 45 = .ok (.aload 9, 2) := by decide +kernel
theorem d_method_4_code_47 : decode method_4_code 47 = .ok (.iload_n 0, 1) := by decide +kernel
theorem d_method_4_code_48 : decode method_4_code 48 = .ok (.iaload, 1) := by decide +kernel
theorem d_method_4_code_49 : decode method_4_code 49 = .ok (.iload 10, 2) := by decide +kernel
theorem d_method_4_code_51 : decode method_4_code 51 = .ok (.if_icmp .ne 7, 3) := by decide +kernel
theorem d_method_4_code_54 : decode method_4_code 54 = .ok (.iconst 1, 1) := by decide +kernel
theorem d_method_4_code_55 : decode method_4_code 55 = .ok (.goto 4, 3) := by decide +kernel
theorem d_method_4_code_59 : decode method_4_code 59 = .ok (.ireturn, 1) := by decide +kernel
theorem d_method_4_code_5 : decode method_4_code 5 = .ok (.iconst 1, 1) := by decide +kernel
theorem d_method_4_code_6 : decode method_4_code 6 = .ok (.ireturn, 1) := by decide +kernel
set_option maxRecDepth 65536 in
set_option maxHeartbeats 40000000 in
theorem rm_cell (l : Launch) (Z : State) (a0 : Array Value) (hw : ∀ d ∈ tables_1, d.before a0 Z = true) (ws : List Jvm.Cond) (k : Nat) (N : Nat) (F : Nat) (p1 : Int32) (p2 : Int32) (p3 : Int32) (p4 : Int32) (p5 : Int32) (p6 : Int32) (p7 : Int32) (a8 : Addr) (a9 : Addr) (a10 : Addr) (h0 : Heap) (n0 : Nat) (Z0 : n0 ≤ h0.size) (I0 : own_Arr Z h0 a8 .int 128 (own_tab N (fun j => own_row (Int32.ofNat (F + j)) p5 p6 p7))) (I1 : own_Arr Z h0 a9 .int 128 (own_tab N (fun j => p4 + (1000 : Int32) * Int32.ofNat (F + j)))) (I2 : own_Arr Z h0 a10 .int 128 (own_tab N (fun j => Int32.ofNat (F + j)))) (hk : p1 = Int32.ofNat k) (hN : p2 = Int32.ofNat N) (hF : p3 = Int32.ofNat F) (hk3 : k < 3) (hN3 : N ≤ 3) (hF12 : F ≤ 12) :
    MetFree l (⟨"com/example/ferrule/ferrule/fusion/BatchTakeAcrossRowsPinLaw", "cellOk", "(IIIIIII[I[I[I)Z"⟩ : MethodName) (head1 (Jvm.Cond.code (⟨"com/example/ferrule/ferrule/fusion/BatchTakeAcrossRowsPinLaw", "cellOk", "(IIIIIII[I[I[I)Z"⟩ : MethodName) method_4_code 11 (some .boolean) :: ws) ({ frames := 1, cells := 0, slots := 0, locals := 16 } : Room)) (fun a U => a = #[(.int p1), (.int p2), (.int p3), (.int p4), (.int p5), (.int p6), (.int p7), (.ref a8), (.ref a9), (.ref a10)] ∧ Z.Warmed39 U.vm ∧ U.heap = h0) (fun _ _ _ _ _ => True) (fun _ U o U' => ∃ v L, o = .returned v ∧ (K_rm_cell k N F Z h0 n0 p1 p2 p3 p4 p5 p6 p7 a8 a9 a10) v U'.heap L ∧ FrameEnd U o U' L ({ frames := 1, cells := 0, slots := 0, locals := 16 } : Room).cells ({ frames := 1, cells := 0, slots := 0, locals := 16 } : Room).slots) := by
  refine own_body (plainFor_of_name pn_com_example_ferrule_ferrule_fusion_BatchTakeAcrossRowsPinLaw) ?_
  intro p e s m below meth c s₁ hx hby hml hown hnm hret hlk hZ X0 e0
  have hown : s.vm.findClass "com/example/ferrule/ferrule/fusion/BatchTakeAcrossRowsPinLaw" = some m.cls := hown
  have N0 := Fr.nil n0
  rw [ef_rm_cell m p1 p2 p3 p4 p5 p6 p7 a8 a9 a10]
  subst hk hN hF
  refine own_iloadN X0 hx (pc' := 1) rfl (hb hby d_method_4_code_0) rfl ?_
  refine own_iloadN X0 hx (pc' := 2) rfl (hb hby d_method_4_code_1) rfl ?_
  by_cases c2_1 : (Int32.ofNat k) < (Int32.ofNat N)
  · refine own_icmpT X0 hx (pc' := 7) (hb hby d_method_4_code_2) (XT.ii_lt_t c2_1) (by decide) (by decide) ?_
    refine own_iloadN X0 hx (pc' := 8) rfl (hb hby d_method_4_code_7) rfl ?_
    refine own_iloadN X0 hx (pc' := 9) rfl (hb hby d_method_4_code_8) rfl ?_
    refine own_iadd X0 hx (v := (Int32.ofNat (F + k))) (pc' := 10) rfl (hb hby d_method_4_code_9) (own_addn F k) ?_
    refine own_istore X0 hx (Ls' := #[.val (.int (Int32.ofNat k)), .val (.int (Int32.ofNat N)), .val (.int (Int32.ofNat F)), .val (.int p4), .val (.int p5), .val (.int p6), .val (.int p7), .val (.ref a8), .val (.ref a9), .val (.ref a10), .val (.int (Int32.ofNat (F + k)))]) (pc' := 12) rfl (hb hby d_method_4_code_10) rfl ?_
    refine own_aload X0 hx (pc' := 14) rfl (hb hby d_method_4_code_12) rfl rfl ?_
    refine own_iloadN X0 hx (pc' := 15) rfl (hb hby d_method_4_code_14) rfl ?_
    refine own_ldI X0 hx hZ e0 I0 (k := k) (own_ix (by omega)).1 (own_ix (by omega)).2 (by omega) (v := (.int (own_row (Int32.ofNat (F + k)) p5 p6 p7))) (own_tabv ((own_ltn (by omega) (by omega)).mp c2_1)) (pc' := 16) rfl (hb hby d_method_4_code_15) ?_
    refine own_iload X0 hx (pc' := 18) rfl (hb hby d_method_4_code_16) rfl ?_
    refine own_iload X0 hx (pc' := 20) rfl (hb hby d_method_4_code_18) rfl ?_
    refine own_iload X0 hx (pc' := 22) rfl (hb hby d_method_4_code_20) rfl ?_
    refine own_iload X0 hx (pc' := 24) rfl (hb hby d_method_4_code_22) rfl ?_
    refine own_callS X0 hx hZ (y := (⟨"com/example/ferrule/ferrule/fusion/BatchTakeAcrossRowsPinLaw", "rowOf", "(IIII)I"⟩ : MethodName)) hown (hw _ (List.mem_of_getElem? (i := 62) rfl)) (hw _ (List.mem_of_getElem? (i := 63) rfl)) (hw _ (List.mem_of_getElem? (i := 64) rfl)) (hw _ (List.mem_of_getElem? (i := 65) rfl))  (by decide) (rm_rowof l Z a0 hw [] (Int32.ofNat (F + k)) p5 p6 p7 h0 n0 Z0) (by decide) (W := 1) (by decide) (by decide) (by decide) e0 (by rw [hml]; rfl) (argsL := [(.int (Int32.ofNat (F + k))), (.int p5), (.int p6), (.int p7)]) (rest := [(.int (own_row (Int32.ofNat (F + k)) p5 p6 p7))]) rfl (lenOf pd__IIII_I rfl) rfl (Nat.le_of_eq rfl) (pc' := 27) rfl (hb hby d_method_4_code_24) ?_
    rintro _ T2 L2 X2 ⟨rfl, N2, e2⟩
    have M2 := Fr.app N0 N2
    show own_Goes p e below T2 (mkF m 27 #[.val (.int (Int32.ofNat k)), .val (.int (Int32.ofNat N)), .val (.int (Int32.ofNat F)), .val (.int p4), .val (.int p5), .val (.int p6), .val (.int p7), .val (.ref a8), .val (.ref a9), .val (.ref a10), .val (.int (Int32.ofNat (F + k)))] [(.int (own_row (Int32.ofNat (F + k)) p5 p6 p7)), (.int (own_row (Int32.ofNat (F + k)) p5 p6 p7))]) (own_Ret s (K_rm_cell k N F Z h0 n0 (Int32.ofNat k) (Int32.ofNat N) (Int32.ofNat F) p4 p5 p6 p7 a8 a9 a10) ({ frames := 1, cells := 0, slots := 0, locals := 16 } : Room).cells ({ frames := 1, cells := 0, slots := 0, locals := 16 } : Room).slots)
    refine own_icmpF X2 hx (pc' := 30) rfl (hb hby d_method_4_code_27) (XT.ii_ne_f rfl) ?_
    refine own_aload X2 hx (pc' := 32) rfl (hb hby d_method_4_code_30) rfl rfl ?_
    refine own_iloadN X2 hx (pc' := 33) rfl (hb hby d_method_4_code_32) rfl ?_
    refine own_ldI X2 hx hZ e2 I1 (k := k) (own_ix (by omega)).1 (own_ix (by omega)).2 (by omega) (v := (.int (p4 + ((1000 : Int32) * (Int32.ofNat (F + k)))))) (own_tabv ((own_ltn (by omega) (by omega)).mp c2_1)) (pc' := 34) rfl (hb hby d_method_4_code_33) ?_
    refine own_iloadN X2 hx (pc' := 35) rfl (hb hby d_method_4_code_34) rfl ?_
    refine own_sipush X2 hx (v := (1000 : Int32)) (pc' := 38) rfl (hb hby d_method_4_code_35) rfl ?_
    refine own_iload X2 hx (pc' := 40) rfl (hb hby d_method_4_code_38) rfl ?_
    refine own_imul X2 hx (v := ((1000 : Int32) * (Int32.ofNat (F + k)))) (pc' := 41) rfl (hb hby d_method_4_code_40) rfl ?_
    refine own_iadd X2 hx (v := (p4 + ((1000 : Int32) * (Int32.ofNat (F + k))))) (pc' := 42) rfl (hb hby d_method_4_code_41) rfl ?_
    refine own_icmpF X2 hx (pc' := 45) rfl (hb hby d_method_4_code_42) (XT.ii_ne_f rfl) ?_
    refine own_aload X2 hx (pc' := 47) rfl (hb hby d_method_4_code_45) rfl rfl ?_
    refine own_iloadN X2 hx (pc' := 48) rfl (hb hby d_method_4_code_47) rfl ?_
    refine own_ldI X2 hx hZ e2 I2 (k := k) (own_ix (by omega)).1 (own_ix (by omega)).2 (by omega) (v := (.int (Int32.ofNat (F + k)))) (own_tabv ((own_ltn (by omega) (by omega)).mp c2_1)) (pc' := 49) rfl (hb hby d_method_4_code_48) ?_
    refine own_iload X2 hx (pc' := 51) rfl (hb hby d_method_4_code_49) rfl ?_
    refine own_icmpF X2 hx (pc' := 54) rfl (hb hby d_method_4_code_51) (XT.ii_ne_f rfl) ?_
    refine own_iconst X2 hx (v := (1 : Int32)) (pc' := 55) rfl (hb hby d_method_4_code_54) rfl ?_
    refine own_goto X2 hx (pc' := 59) (hb hby d_method_4_code_55) (by decide) (by decide) ?_
    refine own_zret X2 hx hlk hret (by simp) (hb hby d_method_4_code_59) (by decide) (by decide) ?_
    rw [e2]
    exact ⟨rfl, M2, rfl⟩
  · refine own_icmpF X0 hx (pc' := 5) rfl (hb hby d_method_4_code_2) (XT.ii_lt_f c2_1) ?_
    refine own_iconst X0 hx (v := (1 : Int32)) (pc' := 6) rfl (hb hby d_method_4_code_5) rfl ?_
    refine own_zret X0 hx hlk hret (by simp) (hb hby d_method_4_code_6) (by decide) (by decide) ?_
    rw [e0]
    exact ⟨rfl, N0, rfl⟩
theorem own_n4 {N : Nat} (h : N ≤ 3) : (N = 0 ∧ Int32.ofNat N = (0 : Int32)) ∨ (N = 1 ∧ Int32.ofNat N = (1 : Int32)) ∨ (N = 2 ∧ Int32.ofNat N = (2 : Int32)) ∨ (N = 3 ∧ Int32.ofNat N = (3 : Int32)) := by
  obtain rfl | rfl | rfl | rfl : N = 0 ∨ N = 1 ∨ N = 2 ∨ N = 3 := by omega
  all_goals decide
theorem own_cols {f : Nat → Value} {c : Int32} (h0 : f 0 = .int c) (h1 : f 1 = .int (c + (1000 : Int32))) (h2 : f 2 = .int (c + (2000 : Int32))) (h3 : f 3 = .int (c + (3000 : Int32))) (h4 : f 4 = .int (c + (4000 : Int32))) (h5 : f 5 = .int (c + (5000 : Int32))) (h6 : f 6 = .int (c + (6000 : Int32))) (h7 : f 7 = .int (c + (7000 : Int32))) (h8 : f 8 = .int (c + (8000 : Int32))) (h9 : f 9 = .int (c + (9000 : Int32))) (h10 : f 10 = .int (c + (10000 : Int32))) (h11 : f 11 = .int (c + (11000 : Int32))) : ∀ j, j < 12 → f j = .int (c + (1000 : Int32) * Int32.ofNat j) := by
  intro j hj
  obtain rfl | rfl | rfl | rfl | rfl | rfl | rfl | rfl | rfl | rfl | rfl | rfl : j = 0 ∨ j = 1 ∨ j = 2 ∨ j = 3 ∨ j = 4 ∨ j = 5 ∨ j = 6 ∨ j = 7 ∨ j = 8 ∨ j = 9 ∨ j = 10 ∨ j = 11 := by omega
  · rw [h0]; exact congrArg Value.int (show c = c + (0 : Int32) from (Int32.add_zero c).symm)
  all_goals assumption
theorem own_m3 (x : Int32) : ∃ k : Nat, k ≤ 3 ∧ (x &&& (3 : Int32)) = Int32.ofNat k := by
  have e1 : (x &&& 3).toInt = x.toInt % 2 ^ 2 := Jvm.Kit.i32_mask x 3 (k := 2) (by decide) (by decide)
  refine ⟨(x &&& 3).toInt.toNat, by omega, Int32.toInt_inj.mp ?_⟩
  rw [own_tn (by omega)]; omega
theorem own_s1 (x : Int32) : ∃ S : Nat, S ≤ 3 ∧ ((0 : Int32) + (x &&& (3 : Int32))) = Int32.ofNat S := by
  obtain ⟨k, hk, e⟩ := own_m3 x
  exact ⟨k, hk, by rw [e, Int32.zero_add]⟩
theorem own_sn (S : Nat) (x : Int32) : ∃ S' : Nat, S ≤ S' ∧ S' ≤ S + 3 ∧ (Int32.ofNat S + (x &&& (3 : Int32))) = Int32.ofNat S' := by
  obtain ⟨k, hk, e⟩ := own_m3 x
  exact ⟨S + k, by omega, by omega, by rw [e, own_addn]⟩
def own_rs (S1 S2 S3 : Nat) (I : Nat) : Nat := if I = 0 then 0 else if I = 1 then S1 else if I = 2 then S2 else S3
theorem own_room {S4 R N : Nat} (hS : S4 ≤ 12) (hR : R ≤ S4) (hN : N ≤ 3) : (((Int32.ofNat S4) - (Int32.ofNat R)) - (Int32.ofNat N)).toInt = (S4 : Int) - R - N := by
  have a := own_tn (k := S4) (by omega)
  have b := own_tn (k := R) (by omega)
  have c := own_tn (k := N) (by omega)
  have d : (Int32.ofNat S4 - Int32.ofNat R).toInt = (S4 : Int) - R := by rw [Jvm.Kit.i32_sub (by omega) (by omega), a, b]
  rw [Jvm.Kit.i32_sub (by omega) (by omega), d, c]
theorem own_from {S4 R N : Nat} {rm x : Int32} (hS : S4 ≤ 12) (hR : R ≤ S4) (hN : N ≤ 3) (e : rm.toInt = (S4 : Int) - R - N) (h : ¬ rm < 0) : ∃ F : Nat, R ≤ F ∧ F + N ≤ S4 ∧ ((Int32.ofNat R) + ((x &&& (2147483647 : Int32)) % (rm + (1 : Int32)))) = Int32.ofNat F := by
  have e1 : (x &&& 2147483647).toInt = x.toInt % 2 ^ 31 := Jvm.Kit.i32_mask x 2147483647 (k := 31) (by decide) (by decide)
  have z0 : (0 : Int32).toInt = 0 := rfl
  have z1 : (1 : Int32).toInt = 1 := rfl
  rw [Int32.lt_iff_toInt_lt, z0] at h
  have d : (rm + 1).toInt = rm.toInt + 1 := by rw [Jvm.Kit.i32_add (by omega) (by omega), z1]
  have q : ((x &&& 2147483647) % (rm + 1)).toInt = (x &&& 2147483647).toInt % (rm.toInt + 1) := by rw [Jvm.Kit.i32_rem_nonneg (by omega), d]
  have b0 := Int.emod_nonneg (x &&& 2147483647).toInt (show rm.toInt + 1 ≠ 0 by omega)
  have b1 := Int.emod_lt_of_pos (x &&& 2147483647).toInt (show 0 < rm.toInt + 1 by omega)
  refine ⟨R + ((x &&& 2147483647) % (rm + 1)).toInt.toNat, by omega, by omega, ?_⟩
  rw [← own_addn]
  congr 1
  apply Int32.toInt_inj.mp
  rw [own_tn (by omega)]; omega
theorem own_nz {rm : Int32} {K : Int} (e : rm.toInt = K) (hK : K ≤ 12) (h : ¬ rm < 0) : (rm + (1 : Int32)) ≠ 0 := by
  have z0 : (0 : Int32).toInt = 0 := rfl
  have z1 : (1 : Int32).toInt = 1 := rfl
  rw [Int32.lt_iff_toInt_lt, z0] at h
  intro q
  have d : (rm + 1).toInt = rm.toInt + 1 := by rw [Jvm.Kit.i32_add (by omega) (by omega), z1]
  have := congrArg Int32.toInt q
  rw [z0, d] at this; omega
theorem own_ge0 {I S1 S2 S3 F : Nat} (hI : I ≤ 3) (h : S1 ≤ S2 ∧ S2 ≤ S3 ∧ S3 ≤ 12) (hF : own_rs S1 S2 S3 I ≤ F) (hF2 : F ≤ 12) : own_ge (Int32.ofNat I) (Int32.ofNat F) (Int32.ofNat S1) (Int32.ofNat S2) (Int32.ofNat S3) := by
  obtain rfl | rfl | rfl | rfl : I = 0 ∨ I = 1 ∨ I = 2 ∨ I = 3 := by omega
  · exact Or.inl rfl
  · have q : S1 ≤ F := hF
    exact Or.inr (Or.inl ⟨rfl, by rw [own_ltn (by omega) (by omega)]; omega⟩)
  · have q : S2 ≤ F := hF
    exact Or.inr (Or.inr (Or.inl ⟨rfl, by rw [own_ltn (by omega) (by omega)]; omega, by rw [own_ltn (by omega) (by omega)]; omega⟩))
  · have q : S3 ≤ F := hF
    exact Or.inr (Or.inr (Or.inr ⟨rfl, by rw [own_ltn (by omega) (by omega)]; omega, by rw [own_ltn (by omega) (by omega)]; omega, by rw [own_ltn (by omega) (by omega)]; omega⟩))
theorem own_rsle {I S1 S2 S3 S4 : Nat} (h : S1 ≤ S2 ∧ S2 ≤ S3 ∧ S3 ≤ S4) : own_rs S1 S2 S3 I ≤ S4 := by
  unfold own_rs; split
  · omega
  · split
    · omega
    · split <;> omega
theorem own_rsv {f : Nat → Value} {S1 S2 S3 I : Nat} (hI : I ≤ 3) (h0 : f 0 = .int (0 : Int32)) (h1 : f 1 = .int (Int32.ofNat S1)) (h2 : f 2 = .int (Int32.ofNat S2)) (h3 : f 3 = .int (Int32.ofNat S3)) : f I = .int (Int32.ofNat (own_rs S1 S2 S3 I)) := by
  obtain rfl | rfl | rfl | rfl : I = 0 ∨ I = 1 ∨ I = 2 ∨ I = 3 := by omega
  · exact h0
  · exact h1
  · exact h2
  · exact h3
theorem own_lastI {i s1 s2 s3 : Int32} {F N : Nat} (h : Int32.ofNat N = 0) (hN : N ≤ 3) : own_last i s1 s2 s3 F N = i := by
  have : N = 0 := by
    have q := congrArg Int32.toInt h
    rw [own_tn (by omega), show (0 : Int32).toInt = 0 from rfl] at q; omega
  subst this; rfl
theorem own_lastR {i s1 s2 s3 : Int32} {F N : Nat} (h : ¬ Int32.ofNat N = 0) : own_last i s1 s2 s3 F N = own_row (((Int32.ofNat F) + (Int32.ofNat N)) - (1 : Int32)) s1 s2 s3 := by
  cases N with
  | zero => exact absurd rfl h
  | succ n =>
    show own_row (Int32.ofNat (F + n)) s1 s2 s3 = _
    congr 1
    rw [own_addn, show F + (n + 1) = (F + n) + 1 by omega, ← own_addn (F + n) 1]
    exact (Int32.add_sub_cancel _ _).symm
theorem own_hlt {F N S4 : Nat} (h : F + N ≤ S4) (h4 : S4 ≤ 12) : ∀ j, j < N → Int32.ofNat (F + j) < Int32.ofNat S4 := fun j hj => (own_ltn (by omega) (by omega)).mpr (by omega)
theorem ef_rm_law (m : MethodId) (p1 : Int32) (p2 : Int32) (p3 : Int32) (p4 : Int32) (p5 : Int32) : entryFrame m #[(.int p1), (.int p2), (.int p3), (.int p4), (.int p5)] maxLocals = mkF m 0 #[.val (.int p1), .val (.int p2), .val (.int p3), .val (.int p4), .val (.int p5), .unset, .unset, .unset, .unset, .unset, .unset, .unset, .unset, .unset, .unset, .unset, .unset, .unset, .unset, .unset, .unset, .unset, .unset] [] := by first | (simp [entryFrame, mkF, argsToLocals, Value.category, maxLocals]; done) | rfl
def K_rm_law  (Z : State) (h0 : Heap) (n0 : Nat) (p1 : Int32) (p2 : Int32) (p3 : Int32) (p4 : Int32) (p5 : Int32) (v : Option Value) (h : Heap) (L : List Loc) : Prop := v = some (.int 1) ∧ Fr n0 L
theorem pd__I_V : parseMethodDescriptor "(I)V" = some ⟨[.int], none⟩ := by decide +kernel
theorem pd__JII_V : parseMethodDescriptor "(JII)V" = some ⟨[.long, .int, .int], none⟩ := by decide +kernel
theorem pd__I_I_III_I : parseMethodDescriptor "(I[I[III)I" = some ⟨[.int, (.array .int), (.array .int), .int, .int], some .int⟩ := by decide +kernel
theorem pd___Z : parseMethodDescriptor "()Z" = some ⟨[], some .boolean⟩ := by decide +kernel
theorem pd____I : parseMethodDescriptor "()[I" = some ⟨[], some (.array .int)⟩ := by decide +kernel
theorem pd__IIIIIII_I_I_I_Z : parseMethodDescriptor "(IIIIIII[I[I[I)Z" = some ⟨[.int, .int, .int, .int, .int, .int, .int, (.array .int), (.array .int), (.array .int)], some .boolean⟩ := by decide +kernel
set_option maxRecDepth 65536 in
set_option maxHeartbeats 40000000 in
theorem rm_law (l : Launch) (Z : State) (a0 : Array Value) (hw : ∀ d ∈ tables_1, d.before a0 Z = true) (ws : List Jvm.Cond)  (p1 : Int32) (p2 : Int32) (p3 : Int32) (p4 : Int32) (p5 : Int32) (h0 : Heap) (n0 : Nat) (Z0 : n0 ≤ h0.size) :
    MetFree l x (head1 (Jvm.Cond.code x code maxLocals ret :: ws) room_1) (fun a U => a = #[(.int p1), (.int p2), (.int p3), (.int p4), (.int p5)] ∧ Z.Warmed39 U.vm ∧ U.heap = h0) (fun _ _ _ _ _ => True) (fun _ U o U' => ∃ v L, o = .returned v ∧ (K_rm_law  Z h0 n0 p1 p2 p3 p4 p5) v U'.heap L ∧ FrameEnd U o U' L room_1.cells room_1.slots) := by
  refine own_body (plainFor_of_name pn_com_example_ferrule_ferrule_fusion_BatchTakeAcrossRowsPinLaw) ?_
  intro p e s m below meth c s₁ hx hby hml hown hnm hret hlk hZ X0 e0
  have hown : s.vm.findClass "com/example/ferrule/ferrule/fusion/BatchTakeAcrossRowsPinLaw" = some m.cls := hown
  have N0 := Fr.nil n0
  rw [ef_rm_law m p1 p2 p3 p4 p5]
  refine own_iconst X0 hx (v := (0 : Int32)) (pc' := 1) rfl (hb hby at_0) rfl ?_
  refine own_istore X0 hx (Ls' := #[.val (.int p1), .val (.int p2), .val (.int p3), .val (.int p4), .val (.int p5), .val (.int (0 : Int32)), .unset, .unset, .unset, .unset, .unset, .unset, .unset, .unset, .unset, .unset, .unset, .unset, .unset, .unset, .unset, .unset, .unset]) (pc' := 3) rfl (hb hby at_1) rfl ?_
  refine own_iload X0 hx (pc' := 5) rfl (hb hby at_3) rfl ?_
  refine own_iloadN X0 hx (pc' := 6) rfl (hb hby at_5) rfl ?_
  refine own_iconst X0 hx (v := (3 : Int32)) (pc' := 7) rfl (hb hby at_6) rfl ?_
  refine own_iand X0 hx (v := (p1 &&& (3 : Int32))) (pc' := 8) rfl (hb hby at_7) rfl ?_
  refine own_iadd X0 hx (v := ((0 : Int32) + (p1 &&& (3 : Int32)))) (pc' := 9) rfl (hb hby at_8) rfl ?_
  obtain ⟨S1, hs1, eS1⟩ := own_s1 p1
  rw [eS1]
  refine own_istore X0 hx (Ls' := #[.val (.int p1), .val (.int p2), .val (.int p3), .val (.int p4), .val (.int p5), .val (.int (0 : Int32)), .val (.int (Int32.ofNat S1)), .unset, .unset, .unset, .unset, .unset, .unset, .unset, .unset, .unset, .unset, .unset, .unset, .unset, .unset, .unset, .unset]) (pc' := 11) rfl (hb hby at_9) rfl ?_
  refine own_iload X0 hx (pc' := 13) rfl (hb hby at_11) rfl ?_
  refine own_iloadN X0 hx (pc' := 14) rfl (hb hby at_13) rfl ?_
  refine own_iconst X0 hx (v := (2 : Int32)) (pc' := 15) rfl (hb hby at_14) rfl ?_
  refine own_iushr X0 hx (v := (XT.ushr p1 (2 : Int32))) (pc' := 16) rfl (hb hby at_15) rfl ?_
  refine own_iconst X0 hx (v := (3 : Int32)) (pc' := 17) rfl (hb hby at_16) rfl ?_
  refine own_iand X0 hx (v := ((XT.ushr p1 (2 : Int32)) &&& (3 : Int32))) (pc' := 18) rfl (hb hby at_17) rfl ?_
  refine own_iadd X0 hx (v := ((Int32.ofNat S1) + ((XT.ushr p1 (2 : Int32)) &&& (3 : Int32)))) (pc' := 19) rfl (hb hby at_18) rfl ?_
  obtain ⟨S2, hs2, hs2', eS2⟩ := own_sn S1 (XT.ushr p1 (2 : Int32))
  rw [eS2]
  refine own_istore X0 hx (Ls' := #[.val (.int p1), .val (.int p2), .val (.int p3), .val (.int p4), .val (.int p5), .val (.int (0 : Int32)), .val (.int (Int32.ofNat S1)), .val (.int (Int32.ofNat S2)), .unset, .unset, .unset, .unset, .unset, .unset, .unset, .unset, .unset, .unset, .unset, .unset, .unset, .unset, .unset]) (pc' := 21) rfl (hb hby at_19) rfl ?_
  refine own_iload X0 hx (pc' := 23) rfl (hb hby at_21) rfl ?_
  refine own_iloadN X0 hx (pc' := 24) rfl (hb hby at_23) rfl ?_
  refine own_iconst X0 hx (v := (4 : Int32)) (pc' := 25) rfl (hb hby at_24) rfl ?_
  refine own_iushr X0 hx (v := (XT.ushr p1 (4 : Int32))) (pc' := 26) rfl (hb hby at_25) rfl ?_
  refine own_iconst X0 hx (v := (3 : Int32)) (pc' := 27) rfl (hb hby at_26) rfl ?_
  refine own_iand X0 hx (v := ((XT.ushr p1 (4 : Int32)) &&& (3 : Int32))) (pc' := 28) rfl (hb hby at_27) rfl ?_
  refine own_iadd X0 hx (v := ((Int32.ofNat S2) + ((XT.ushr p1 (4 : Int32)) &&& (3 : Int32)))) (pc' := 29) rfl (hb hby at_28) rfl ?_
  obtain ⟨S3, hs3, hs3', eS3⟩ := own_sn S2 (XT.ushr p1 (4 : Int32))
  rw [eS3]
  refine own_istore X0 hx (Ls' := #[.val (.int p1), .val (.int p2), .val (.int p3), .val (.int p4), .val (.int p5), .val (.int (0 : Int32)), .val (.int (Int32.ofNat S1)), .val (.int (Int32.ofNat S2)), .val (.int (Int32.ofNat S3)), .unset, .unset, .unset, .unset, .unset, .unset, .unset, .unset, .unset, .unset, .unset, .unset, .unset, .unset]) (pc' := 31) rfl (hb hby at_29) rfl ?_
  refine own_iload X0 hx (pc' := 33) rfl (hb hby at_31) rfl ?_
  refine own_iloadN X0 hx (pc' := 34) rfl (hb hby at_33) rfl ?_
  refine own_bipush X0 hx (v := (6 : Int32)) (pc' := 36) rfl (hb hby at_34) rfl ?_
  refine own_iushr X0 hx (v := (XT.ushr p1 (6 : Int32))) (pc' := 37) rfl (hb hby at_36) rfl ?_
  refine own_iconst X0 hx (v := (3 : Int32)) (pc' := 38) rfl (hb hby at_37) rfl ?_
  refine own_iand X0 hx (v := ((XT.ushr p1 (6 : Int32)) &&& (3 : Int32))) (pc' := 39) rfl (hb hby at_38) rfl ?_
  refine own_iadd X0 hx (v := ((Int32.ofNat S3) + ((XT.ushr p1 (6 : Int32)) &&& (3 : Int32)))) (pc' := 40) rfl (hb hby at_39) rfl ?_
  obtain ⟨S4, hs4, hs4', eS4⟩ := own_sn S3 (XT.ushr p1 (6 : Int32))
  rw [eS4]
  refine own_istore X0 hx (Ls' := #[.val (.int p1), .val (.int p2), .val (.int p3), .val (.int p4), .val (.int p5), .val (.int (0 : Int32)), .val (.int (Int32.ofNat S1)), .val (.int (Int32.ofNat S2)), .val (.int (Int32.ofNat S3)), .val (.int (Int32.ofNat S4)), .unset, .unset, .unset, .unset, .unset, .unset, .unset, .unset, .unset, .unset, .unset, .unset, .unset]) (pc' := 42) rfl (hb hby at_40) rfl ?_
  refine own_iconst X0 hx (v := (5 : Int32)) (pc' := 43) rfl (hb hby at_42) rfl ?_
  refine own_newarr X0 hx hZ (aty := .int) (hw _ (List.mem_of_getElem? (i := 0) rfl)) e0 (pc' := 45) rfl (hb hby at_43) (by decide) (N := 5) (by decide) (cap := 5) (by decide) (by decide) (by decide) (by decide) ?_
  intro T1 h1 X1 e1 E1 A1
  obtain ⟨o1, g1⟩ : ∃ z, z = h0.size := ⟨_, rfl⟩
  rw [← g1] at A1 ⊢
  have ge1 : n0 ≤ o1 := g1 ▸ Z0
  have Siz_2 := Nat.le_trans Z0 E1.1
  refine own_dup X1 hx (pc' := 46) rfl (hb hby at_45) rfl ?_
  refine own_iconst X1 hx (v := (0 : Int32)) (pc' := 47) rfl (hb hby at_46) rfl ?_
  refine own_iload X1 hx (pc' := 49) rfl (hb hby at_47) rfl ?_
  refine own_stI X1 hx hZ e1 A1 (k := 0) (by decide) (by decide) (by decide) (pc' := 50) rfl (hb hby at_49) ?_
  intro T3 h3 X3 e3 W3 A3
  have Siz_4 := own_sizWr W3 Siz_2
  have N3 := Fr.snoc X3 N0 ge1
  refine own_dup X3 hx (pc' := 51) rfl (hb hby at_50) rfl ?_
  refine own_iconst X3 hx (v := (1 : Int32)) (pc' := 52) rfl (hb hby at_51) rfl ?_
  refine own_iload X3 hx (pc' := 54) rfl (hb hby at_52) rfl ?_
  refine own_stI X3 hx hZ e3 A3 (k := 1) (by decide) (by decide) (by decide) (pc' := 55) rfl (hb hby at_54) ?_
  intro T6 h6 X6 e6 W6 A6
  have Siz_7 := own_sizWr W6 Siz_4
  have N6 := Fr.snoc X6 N3 ge1
  refine own_dup X6 hx (pc' := 56) rfl (hb hby at_55) rfl ?_
  refine own_iconst X6 hx (v := (2 : Int32)) (pc' := 57) rfl (hb hby at_56) rfl ?_
  refine own_iload X6 hx (pc' := 59) rfl (hb hby at_57) rfl ?_
  refine own_stI X6 hx hZ e6 A6 (k := 2) (by decide) (by decide) (by decide) (pc' := 60) rfl (hb hby at_59) ?_
  intro T9 h9 X9 e9 W9 A9
  have Siz_10 := own_sizWr W9 Siz_7
  have N9 := Fr.snoc X9 N6 ge1
  refine own_dup X9 hx (pc' := 61) rfl (hb hby at_60) rfl ?_
  refine own_iconst X9 hx (v := (3 : Int32)) (pc' := 62) rfl (hb hby at_61) rfl ?_
  refine own_iload X9 hx (pc' := 64) rfl (hb hby at_62) rfl ?_
  refine own_stI X9 hx hZ e9 A9 (k := 3) (by decide) (by decide) (by decide) (pc' := 65) rfl (hb hby at_64) ?_
  intro T12 h12 X12 e12 W12 A12
  have Siz_13 := own_sizWr W12 Siz_10
  have N12 := Fr.snoc X12 N9 ge1
  refine own_dup X12 hx (pc' := 66) rfl (hb hby at_65) rfl ?_
  refine own_iconst X12 hx (v := (4 : Int32)) (pc' := 67) rfl (hb hby at_66) rfl ?_
  refine own_iload X12 hx (pc' := 69) rfl (hb hby at_67) rfl ?_
  refine own_stI X12 hx hZ e12 A12 (k := 4) (by decide) (by decide) (by decide) (pc' := 70) rfl (hb hby at_69) ?_
  intro T15 h15 X15 e15 W15 A15
  have Siz_16 := own_sizWr W15 Siz_13
  have N15 := Fr.snoc X15 N12 ge1
  refine own_astore X15 hx (Ls' := #[.val (.int p1), .val (.int p2), .val (.int p3), .val (.int p4), .val (.int p5), .val (.int (0 : Int32)), .val (.int (Int32.ofNat S1)), .val (.int (Int32.ofNat S2)), .val (.int (Int32.ofNat S3)), .val (.int (Int32.ofNat S4)), .val (.ref o1), .unset, .unset, .unset, .unset, .unset, .unset, .unset, .unset, .unset, .unset, .unset, .unset]) (pc' := 72) rfl (hb hby at_70) rfl rfl ?_
  refine own_iloadN X15 hx (pc' := 73) rfl (hb hby at_72) rfl ?_
  refine own_iconst X15 hx (v := (3 : Int32)) (pc' := 74) rfl (hb hby at_73) rfl ?_
  refine own_iand X15 hx (v := (p2 &&& (3 : Int32))) (pc' := 75) rfl (hb hby at_74) rfl ?_
  obtain ⟨I, hI, eI⟩ := own_m3 p2
  rw [eI]
  refine own_istore X15 hx (Ls' := #[.val (.int p1), .val (.int p2), .val (.int p3), .val (.int p4), .val (.int p5), .val (.int (0 : Int32)), .val (.int (Int32.ofNat S1)), .val (.int (Int32.ofNat S2)), .val (.int (Int32.ofNat S3)), .val (.int (Int32.ofNat S4)), .val (.ref o1), .val (.int (Int32.ofNat I)), .unset, .unset, .unset, .unset, .unset, .unset, .unset, .unset, .unset, .unset, .unset]) (pc' := 77) rfl (hb hby at_75) rfl ?_
  refine own_iloadN X15 hx (pc' := 78) rfl (hb hby at_77) rfl ?_
  refine own_iconst X15 hx (v := (3 : Int32)) (pc' := 79) rfl (hb hby at_78) rfl ?_
  refine own_iand X15 hx (v := (p4 &&& (3 : Int32))) (pc' := 80) rfl (hb hby at_79) rfl ?_
  obtain ⟨N, hN, eN⟩ := own_m3 p4
  rw [eN]
  refine own_istore X15 hx (Ls' := #[.val (.int p1), .val (.int p2), .val (.int p3), .val (.int p4), .val (.int p5), .val (.int (0 : Int32)), .val (.int (Int32.ofNat S1)), .val (.int (Int32.ofNat S2)), .val (.int (Int32.ofNat S3)), .val (.int (Int32.ofNat S4)), .val (.ref o1), .val (.int (Int32.ofNat I)), .val (.int (Int32.ofNat N)), .unset, .unset, .unset, .unset, .unset, .unset, .unset, .unset, .unset, .unset]) (pc' := 82) rfl (hb hby at_80) rfl ?_
  refine own_iload X15 hx (pc' := 84) rfl (hb hby at_82) rfl ?_
  refine own_aload X15 hx (pc' := 86) rfl (hb hby at_84) rfl rfl ?_
  refine own_iload X15 hx (pc' := 88) rfl (hb hby at_86) rfl ?_
  refine own_ldI X15 hx hZ e15 A15 (k := I) (own_ix (by omega)).1 (own_ix (by omega)).2 (by omega) (v := (.int (Int32.ofNat (own_rs S1 S2 S3 I)))) (own_rsv hI rfl rfl rfl rfl) (pc' := 89) rfl (hb hby at_88) ?_
  refine own_isub X15 hx (v := ((Int32.ofNat S4) - (Int32.ofNat (own_rs S1 S2 S3 I)))) (pc' := 90) rfl (hb hby at_89) rfl ?_
  refine own_iload X15 hx (pc' := 92) rfl (hb hby at_90) rfl ?_
  refine own_isub X15 hx (v := (((Int32.ofNat S4) - (Int32.ofNat (own_rs S1 S2 S3 I))) - (Int32.ofNat N))) (pc' := 93) rfl (hb hby at_92) rfl ?_
  have hR : own_rs S1 S2 S3 I ≤ S4 := own_rsle ⟨hs2, hs3, hs4⟩
  have hrm := own_room (S4 := S4) (R := own_rs S1 S2 S3 I) (N := N) (by omega) hR hN
  generalize (((Int32.ofNat S4) - (Int32.ofNat (own_rs S1 S2 S3 I))) - (Int32.ofNat N)) = rm at hrm ⊢
  refine own_istore X15 hx (Ls' := #[.val (.int p1), .val (.int p2), .val (.int p3), .val (.int p4), .val (.int p5), .val (.int (0 : Int32)), .val (.int (Int32.ofNat S1)), .val (.int (Int32.ofNat S2)), .val (.int (Int32.ofNat S3)), .val (.int (Int32.ofNat S4)), .val (.ref o1), .val (.int (Int32.ofNat I)), .val (.int (Int32.ofNat N)), .val (.int rm), .unset, .unset, .unset, .unset, .unset, .unset, .unset, .unset, .unset]) (pc' := 95) rfl (hb hby at_93) rfl ?_
  refine own_iload X15 hx (pc' := 97) rfl (hb hby at_95) rfl ?_
  by_cases c97_18 : rm < 0
  · refine own_ifF X15 hx (pc' := 100) rfl (hb hby at_97) (XT.i0_ge_f c97_18) ?_
    refine own_iconst X15 hx (v := (1 : Int32)) (pc' := 101) rfl (hb hby at_100) rfl ?_
    refine own_zret X15 hx hlk hret (by simp) (hb hby at_101) (by decide) (by decide) ?_
    rw [e15]
    exact ⟨rfl, N15⟩
  · refine own_ifT X15 hx (pc' := 102) (hb hby at_97) (XT.i0_ge_t c97_18) (by decide) (by decide) ?_
    refine own_aload X15 hx (pc' := 104) rfl (hb hby at_102) rfl rfl ?_
    refine own_iload X15 hx (pc' := 106) rfl (hb hby at_104) rfl ?_
    refine own_ldI X15 hx hZ e15 A15 (k := I) (own_ix (by omega)).1 (own_ix (by omega)).2 (by omega) (v := (.int (Int32.ofNat (own_rs S1 S2 S3 I)))) (own_rsv hI rfl rfl rfl rfl) (pc' := 107) rfl (hb hby at_106) ?_
    refine own_iloadN X15 hx (pc' := 108) rfl (hb hby at_107) rfl ?_
    refine own_ldc X15 hx hZ hown (hw _ (List.mem_of_getElem? (i := 1) rfl)) (pc' := 110) rfl (hb hby at_108) ?_
    refine own_iand X15 hx (v := (p3 &&& (2147483647 : Int32))) (pc' := 111) rfl (hb hby at_110) rfl ?_
    refine own_iload X15 hx (pc' := 113) rfl (hb hby at_111) rfl ?_
    refine own_iconst X15 hx (v := (1 : Int32)) (pc' := 114) rfl (hb hby at_113) rfl ?_
    refine own_iadd X15 hx (v := (rm + (1 : Int32))) (pc' := 115) rfl (hb hby at_114) rfl ?_
    refine own_irem X15 hx (v := ((p3 &&& (2147483647 : Int32)) % (rm + (1 : Int32)))) (pc' := 116) rfl (hb hby at_115) (own_nz hrm (by omega) c97_18) rfl ?_
    refine own_iadd X15 hx (v := ((Int32.ofNat (own_rs S1 S2 S3 I)) + ((p3 &&& (2147483647 : Int32)) % (rm + (1 : Int32))))) (pc' := 117) rfl (hb hby at_116) rfl ?_
    obtain ⟨F, hRF, hFS, eF⟩ := own_from (x := p3) (by omega) hR hN hrm c97_18
    rw [eF]
    have hFN : F + N ≤ 12 := by omega
    have hlt := own_hlt hFS (by omega)
    have hge := own_ge0 (S1 := S1) (S2 := S2) (S3 := S3) hI ⟨hs2, hs3, by omega⟩ hRF (by omega)
    refine own_istore X15 hx (Ls' := #[.val (.int p1), .val (.int p2), .val (.int p3), .val (.int p4), .val (.int p5), .val (.int (0 : Int32)), .val (.int (Int32.ofNat S1)), .val (.int (Int32.ofNat S2)), .val (.int (Int32.ofNat S3)), .val (.int (Int32.ofNat S4)), .val (.ref o1), .val (.int (Int32.ofNat I)), .val (.int (Int32.ofNat N)), .val (.int rm), .val (.int (Int32.ofNat F)), .unset, .unset, .unset, .unset, .unset, .unset, .unset, .unset]) (pc' := 119) rfl (hb hby at_117) rfl ?_
    refine own_bipush X15 hx (v := (12 : Int32)) (pc' := 121) rfl (hb hby at_119) rfl ?_
    refine own_newarr X15 hx hZ (aty := .int) (hw _ (List.mem_of_getElem? (i := 0) rfl)) e15 (pc' := 123) rfl (hb hby at_121) (by decide) (N := 12) (by decide) (cap := 12) (by decide) (by decide) (by decide) (by decide) ?_
    intro T19 h19 X19 e19 E19 A19
    obtain ⟨o19, g19⟩ : ∃ z, z = h15.size := ⟨_, rfl⟩
    rw [← g19] at A19 ⊢
    have ne19_o1 : o1 ≠ o19 := Nat.ne_of_lt (g19 ▸ (own_Arr.lt A15))
    have ge19 : n0 ≤ o19 := g19 ▸ Siz_16
    have Siz_20 := Nat.le_trans Siz_16 E19.1
    have Arr_21 := own_Arr.ext E19 A15
    refine own_dup X19 hx (pc' := 124) rfl (hb hby at_123) rfl ?_
    refine own_iconst X19 hx (v := (0 : Int32)) (pc' := 125) rfl (hb hby at_124) rfl ?_
    refine own_iload X19 hx (pc' := 127) rfl (hb hby at_125) rfl ?_
    refine own_stI X19 hx hZ e19 A19 (k := 0) (by decide) (by decide) (by decide) (pc' := 128) rfl (hb hby at_127) ?_
    intro T22 h22 X22 e22 W22 A22
    have Siz_23 := own_sizWr W22 Siz_20
    have Arr_24 := own_Arr.other W22 Arr_21 ne19_o1
    have N22 := Fr.snoc X22 N15 ge19
    refine own_dup X22 hx (pc' := 129) rfl (hb hby at_128) rfl ?_
    refine own_iconst X22 hx (v := (1 : Int32)) (pc' := 130) rfl (hb hby at_129) rfl ?_
    refine own_iload X22 hx (pc' := 132) rfl (hb hby at_130) rfl ?_
    refine own_sipush X22 hx (v := (1000 : Int32)) (pc' := 135) rfl (hb hby at_132) rfl ?_
    refine own_iadd X22 hx (v := (p5 + (1000 : Int32))) (pc' := 136) rfl (hb hby at_135) rfl ?_
    refine own_stI X22 hx hZ e22 A22 (k := 1) (by decide) (by decide) (by decide) (pc' := 137) rfl (hb hby at_136) ?_
    intro T26 h26 X26 e26 W26 A26
    have Siz_27 := own_sizWr W26 Siz_23
    have Arr_28 := own_Arr.other W26 Arr_24 ne19_o1
    have N26 := Fr.snoc X26 N22 ge19
    refine own_dup X26 hx (pc' := 138) rfl (hb hby at_137) rfl ?_
    refine own_iconst X26 hx (v := (2 : Int32)) (pc' := 139) rfl (hb hby at_138) rfl ?_
    refine own_iload X26 hx (pc' := 141) rfl (hb hby at_139) rfl ?_
    refine own_sipush X26 hx (v := (2000 : Int32)) (pc' := 144) rfl (hb hby at_141) rfl ?_
    refine own_iadd X26 hx (v := (p5 + (2000 : Int32))) (pc' := 145) rfl (hb hby at_144) rfl ?_
    refine own_stI X26 hx hZ e26 A26 (k := 2) (by decide) (by decide) (by decide) (pc' := 146) rfl (hb hby at_145) ?_
    intro T30 h30 X30 e30 W30 A30
    have Siz_31 := own_sizWr W30 Siz_27
    have Arr_32 := own_Arr.other W30 Arr_28 ne19_o1
    have N30 := Fr.snoc X30 N26 ge19
    refine own_dup X30 hx (pc' := 147) rfl (hb hby at_146) rfl ?_
    refine own_iconst X30 hx (v := (3 : Int32)) (pc' := 148) rfl (hb hby at_147) rfl ?_
    refine own_iload X30 hx (pc' := 150) rfl (hb hby at_148) rfl ?_
    refine own_sipush X30 hx (v := (3000 : Int32)) (pc' := 153) rfl (hb hby at_150) rfl ?_
    refine own_iadd X30 hx (v := (p5 + (3000 : Int32))) (pc' := 154) rfl (hb hby at_153) rfl ?_
    refine own_stI X30 hx hZ e30 A30 (k := 3) (by decide) (by decide) (by decide) (pc' := 155) rfl (hb hby at_154) ?_
    intro T34 h34 X34 e34 W34 A34
    have Siz_35 := own_sizWr W34 Siz_31
    have Arr_36 := own_Arr.other W34 Arr_32 ne19_o1
    have N34 := Fr.snoc X34 N30 ge19
    refine own_dup X34 hx (pc' := 156) rfl (hb hby at_155) rfl ?_
    refine own_iconst X34 hx (v := (4 : Int32)) (pc' := 157) rfl (hb hby at_156) rfl ?_
    refine own_iload X34 hx (pc' := 159) rfl (hb hby at_157) rfl ?_
    refine own_sipush X34 hx (v := (4000 : Int32)) (pc' := 162) rfl (hb hby at_159) rfl ?_
    refine own_iadd X34 hx (v := (p5 + (4000 : Int32))) (pc' := 163) rfl (hb hby at_162) rfl ?_
    refine own_stI X34 hx hZ e34 A34 (k := 4) (by decide) (by decide) (by decide) (pc' := 164) rfl (hb hby at_163) ?_
    intro T38 h38 X38 e38 W38 A38
    have Siz_39 := own_sizWr W38 Siz_35
    have Arr_40 := own_Arr.other W38 Arr_36 ne19_o1
    have N38 := Fr.snoc X38 N34 ge19
    refine own_dup X38 hx (pc' := 165) rfl (hb hby at_164) rfl ?_
    refine own_iconst X38 hx (v := (5 : Int32)) (pc' := 166) rfl (hb hby at_165) rfl ?_
    refine own_iload X38 hx (pc' := 168) rfl (hb hby at_166) rfl ?_
    refine own_sipush X38 hx (v := (5000 : Int32)) (pc' := 171) rfl (hb hby at_168) rfl ?_
    refine own_iadd X38 hx (v := (p5 + (5000 : Int32))) (pc' := 172) rfl (hb hby at_171) rfl ?_
    refine own_stI X38 hx hZ e38 A38 (k := 5) (by decide) (by decide) (by decide) (pc' := 173) rfl (hb hby at_172) ?_
    intro T42 h42 X42 e42 W42 A42
    have Siz_43 := own_sizWr W42 Siz_39
    have Arr_44 := own_Arr.other W42 Arr_40 ne19_o1
    have N42 := Fr.snoc X42 N38 ge19
    refine own_dup X42 hx (pc' := 174) rfl (hb hby at_173) rfl ?_
    refine own_bipush X42 hx (v := (6 : Int32)) (pc' := 176) rfl (hb hby at_174) rfl ?_
    refine own_iload X42 hx (pc' := 178) rfl (hb hby at_176) rfl ?_
    refine own_sipush X42 hx (v := (6000 : Int32)) (pc' := 181) rfl (hb hby at_178) rfl ?_
    refine own_iadd X42 hx (v := (p5 + (6000 : Int32))) (pc' := 182) rfl (hb hby at_181) rfl ?_
    refine own_stI X42 hx hZ e42 A42 (k := 6) (by decide) (by decide) (by decide) (pc' := 183) rfl (hb hby at_182) ?_
    intro T46 h46 X46 e46 W46 A46
    have Siz_47 := own_sizWr W46 Siz_43
    have Arr_48 := own_Arr.other W46 Arr_44 ne19_o1
    have N46 := Fr.snoc X46 N42 ge19
    refine own_dup X46 hx (pc' := 184) rfl (hb hby at_183) rfl ?_
    refine own_bipush X46 hx (v := (7 : Int32)) (pc' := 186) rfl (hb hby at_184) rfl ?_
    refine own_iload X46 hx (pc' := 188) rfl (hb hby at_186) rfl ?_
    refine own_sipush X46 hx (v := (7000 : Int32)) (pc' := 191) rfl (hb hby at_188) rfl ?_
    refine own_iadd X46 hx (v := (p5 + (7000 : Int32))) (pc' := 192) rfl (hb hby at_191) rfl ?_
    refine own_stI X46 hx hZ e46 A46 (k := 7) (by decide) (by decide) (by decide) (pc' := 193) rfl (hb hby at_192) ?_
    intro T50 h50 X50 e50 W50 A50
    have Siz_51 := own_sizWr W50 Siz_47
    have Arr_52 := own_Arr.other W50 Arr_48 ne19_o1
    have N50 := Fr.snoc X50 N46 ge19
    refine own_dup X50 hx (pc' := 194) rfl (hb hby at_193) rfl ?_
    refine own_bipush X50 hx (v := (8 : Int32)) (pc' := 196) rfl (hb hby at_194) rfl ?_
    refine own_iload X50 hx (pc' := 198) rfl (hb hby at_196) rfl ?_
    refine own_sipush X50 hx (v := (8000 : Int32)) (pc' := 201) rfl (hb hby at_198) rfl ?_
    refine own_iadd X50 hx (v := (p5 + (8000 : Int32))) (pc' := 202) rfl (hb hby at_201) rfl ?_
    refine own_stI X50 hx hZ e50 A50 (k := 8) (by decide) (by decide) (by decide) (pc' := 203) rfl (hb hby at_202) ?_
    intro T54 h54 X54 e54 W54 A54
    have Siz_55 := own_sizWr W54 Siz_51
    have Arr_56 := own_Arr.other W54 Arr_52 ne19_o1
    have N54 := Fr.snoc X54 N50 ge19
    refine own_dup X54 hx (pc' := 204) rfl (hb hby at_203) rfl ?_
    refine own_bipush X54 hx (v := (9 : Int32)) (pc' := 206) rfl (hb hby at_204) rfl ?_
    refine own_iload X54 hx (pc' := 208) rfl (hb hby at_206) rfl ?_
    refine own_sipush X54 hx (v := (9000 : Int32)) (pc' := 211) rfl (hb hby at_208) rfl ?_
    refine own_iadd X54 hx (v := (p5 + (9000 : Int32))) (pc' := 212) rfl (hb hby at_211) rfl ?_
    refine own_stI X54 hx hZ e54 A54 (k := 9) (by decide) (by decide) (by decide) (pc' := 213) rfl (hb hby at_212) ?_
    intro T58 h58 X58 e58 W58 A58
    have Siz_59 := own_sizWr W58 Siz_55
    have Arr_60 := own_Arr.other W58 Arr_56 ne19_o1
    have N58 := Fr.snoc X58 N54 ge19
    refine own_dup X58 hx (pc' := 214) rfl (hb hby at_213) rfl ?_
    refine own_bipush X58 hx (v := (10 : Int32)) (pc' := 216) rfl (hb hby at_214) rfl ?_
    refine own_iload X58 hx (pc' := 218) rfl (hb hby at_216) rfl ?_
    refine own_sipush X58 hx (v := (10000 : Int32)) (pc' := 221) rfl (hb hby at_218) rfl ?_
    refine own_iadd X58 hx (v := (p5 + (10000 : Int32))) (pc' := 222) rfl (hb hby at_221) rfl ?_
    refine own_stI X58 hx hZ e58 A58 (k := 10) (by decide) (by decide) (by decide) (pc' := 223) rfl (hb hby at_222) ?_
    intro T62 h62 X62 e62 W62 A62
    have Siz_63 := own_sizWr W62 Siz_59
    have Arr_64 := own_Arr.other W62 Arr_60 ne19_o1
    have N62 := Fr.snoc X62 N58 ge19
    refine own_dup X62 hx (pc' := 224) rfl (hb hby at_223) rfl ?_
    refine own_bipush X62 hx (v := (11 : Int32)) (pc' := 226) rfl (hb hby at_224) rfl ?_
    refine own_iload X62 hx (pc' := 228) rfl (hb hby at_226) rfl ?_
    refine own_sipush X62 hx (v := (11000 : Int32)) (pc' := 231) rfl (hb hby at_228) rfl ?_
    refine own_iadd X62 hx (v := (p5 + (11000 : Int32))) (pc' := 232) rfl (hb hby at_231) rfl ?_
    refine own_stI X62 hx hZ e62 A62 (k := 11) (by decide) (by decide) (by decide) (pc' := 233) rfl (hb hby at_232) ?_
    intro T66 h66 X66 e66 W66 A66
    have Siz_67 := own_sizWr W66 Siz_63
    have Arr_68 := own_Arr.other W66 Arr_64 ne19_o1
    have N66 := Fr.snoc X66 N62 ge19
    refine own_astore X66 hx (Ls' := #[.val (.int p1), .val (.int p2), .val (.int p3), .val (.int p4), .val (.int p5), .val (.int (0 : Int32)), .val (.int (Int32.ofNat S1)), .val (.int (Int32.ofNat S2)), .val (.int (Int32.ofNat S3)), .val (.int (Int32.ofNat S4)), .val (.ref o1), .val (.int (Int32.ofNat I)), .val (.int (Int32.ofNat N)), .val (.int rm), .val (.int (Int32.ofNat F)), .val (.ref o19), .unset, .unset, .unset, .unset, .unset, .unset, .unset]) (pc' := 235) rfl (hb hby at_233) rfl rfl ?_
    refine own_new X66 hx hZ hown (hw _ (List.mem_of_getElem? (i := 2) rfl)) (hw _ (List.mem_of_getElem? (i := 3) rfl)) (hw _ (List.mem_of_getElem? (i := 4) rfl)) e66 (pc' := 238) rfl (hb hby at_235) (by decide) (by decide) ?_
    intro T70 h70 X70 e70 E70 A70 D70
    obtain ⟨o70, g70⟩ : ∃ z, z = h66.size := ⟨_, rfl⟩
    rw [← g70] at A70 D70 ⊢
    have ne70_o1 : o1 ≠ o70 := Nat.ne_of_lt (g70 ▸ (own_Arr.lt Arr_68))
    have ne70_o19 : o19 ≠ o70 := Nat.ne_of_lt (g70 ▸ (own_Arr.lt A66))
    have ge70 : n0 ≤ o70 := g70 ▸ Siz_67
    have Siz_71 := Nat.le_trans Siz_67 E70.1
    have Arr_72 := own_Arr.ext E70 Arr_68
    have Arr_73 := own_Arr.ext E70 A66
    have F74 : Fld Z h70 o70 "com/example/ferrule/ferrule/fusion/CellKernel$Batch" "rows" "[I" .null := D70 (Or.inr (hw _ (List.mem_of_getElem? (i := 12) rfl))) (ty := (.array .int)) (by decide)
    have F75 : Fld Z h70 o70 "com/example/ferrule/ferrule/fusion/CellKernel$Batch" "cols" "[I" .null := D70 (Or.inr (hw _ (List.mem_of_getElem? (i := 14) rfl))) (ty := (.array .int)) (by decide)
    have F76 : Fld Z h70 o70 "com/example/ferrule/ferrule/fusion/CellKernel$Batch" "places" "[I" .null := D70 (Or.inr (hw _ (List.mem_of_getElem? (i := 16) rfl))) (ty := (.array .int)) (by decide)
    have F77 : Fld Z h70 o70 "com/example/ferrule/ferrule/fusion/CellKernel$Batch" "listed" "Z" (.int (0 : Int32)) := D70 (Or.inl (hw _ (List.mem_of_getElem? (i := 18) rfl))) (ty := .boolean) (by decide)
    have F78 : Fld Z h70 o70 "com/example/ferrule/ferrule/fusion/CellKernel$Batch" "most" "I" (.int (0 : Int32)) := D70 (Or.inr (hw _ (List.mem_of_getElem? (i := 20) rfl))) (ty := .int) (by decide)
    have F79 : Fld Z h70 o70 "com/example/ferrule/ferrule/fusion/CellKernel$Batch" "count" "I" (.int (0 : Int32)) := D70 (Or.inl (hw _ (List.mem_of_getElem? (i := 27) rfl))) (ty := .int) (by decide)
    have F80 : Fld Z h70 o70 "com/example/ferrule/ferrule/fusion/CellKernel$Batch" "run" "Z" (.int (0 : Int32)) := D70 (Or.inl (hw _ (List.mem_of_getElem? (i := 29) rfl))) (ty := .boolean) (by decide)
    have F81 : Fld Z h70 o70 "com/example/ferrule/ferrule/fusion/CellKernel$Batch" "width" "I" (.int (0 : Int32)) := D70 (Or.inl (hw _ (List.mem_of_getElem? (i := 31) rfl))) (ty := .int) (by decide)
    have F82 : Fld Z h70 o70 "com/example/ferrule/ferrule/fusion/CellKernel$Batch" "first" "J" (.long (0 : Int64)) := D70 (Or.inl (hw _ (List.mem_of_getElem? (i := 33) rfl))) (ty := .long) (by decide)
    have F83 : Fld Z h70 o70 "com/example/ferrule/ferrule/fusion/CellKernel$Batch" "located" "Z" (.int (0 : Int32)) := D70 (Or.inl (hw _ (List.mem_of_getElem? (i := 35) rfl))) (ty := .boolean) (by decide)
    refine own_dup X70 hx (pc' := 239) rfl (hb hby at_238) rfl ?_
    refine own_sipush X70 hx (v := (128 : Int32)) (pc' := 242) rfl (hb hby at_239) rfl ?_
    refine own_callC X70 hx hZ (y := (⟨"com/example/ferrule/ferrule/fusion/CellKernel$Batch", "<init>", "(I)V"⟩ : MethodName)) rfl hown (hw _ (List.mem_of_getElem? (i := 5) rfl)) (hw _ (List.mem_of_getElem? (i := 6) rfl)) (hw _ (List.mem_of_getElem? (i := 4) rfl)) (hw _ (List.mem_of_getElem? (i := 7) rfl))  (by decide) (rm_ctor l Z a0 hw [] o70 (128 : Int32) h70 n0 Siz_71 A70 F74 F75 F76 F77 F78 F79 F80 F81 F82 F83 ge70) (by decide) (W := 1) (by decide) (by decide) (by decide) e70 (by rw [hml]; rfl) (argsL := [(.int (128 : Int32))]) (rest := [(.ref o70)]) rfl (lenOf pd__I_V rfl) rfl (Nat.le_of_eq rfl) (pc' := 245) rfl (hb hby at_242) ?_
    rintro _ T84 L84 X84 ⟨b1_84, b2_84, b3_84, rfl, N84, K84, A84, F84_0, F84_1, F84_2, F84_3, F84_4, F84_5, F84_6, F84_7, F84_8, V84_0, V84_1, V84_2, y84_0, y84_1, y84_2, u84_0, u84_1, u84_2⟩
    have M84 := Fr.app N66 N84
    obtain ⟨h84, e84⟩ : ∃ z, T84.heap = z := ⟨_, rfl⟩
    rw [e84] at K84 A84 F84_0 F84_1 F84_2 F84_3 F84_4 F84_5 F84_6 F84_7 F84_8 V84_0 V84_1 V84_2
    have ge_b1_84 : n0 ≤ b1_84 := Nat.le_trans Siz_71 y84_0
    have ge_b2_84 : n0 ≤ b2_84 := Nat.le_trans Siz_71 y84_1
    have ge_b3_84 : n0 ≤ b3_84 := Nat.le_trans Siz_71 y84_2
    have ne_o1_b1_84 : o1 ≠ b1_84 := Nat.ne_of_lt (Nat.lt_of_lt_of_le (own_Arr.lt Arr_72) y84_0)
    have ne_o1_b2_84 : o1 ≠ b2_84 := Nat.ne_of_lt (Nat.lt_of_lt_of_le (own_Arr.lt Arr_72) y84_1)
    have ne_o1_b3_84 : o1 ≠ b3_84 := Nat.ne_of_lt (Nat.lt_of_lt_of_le (own_Arr.lt Arr_72) y84_2)
    have ne_o19_b1_84 : o19 ≠ b1_84 := Nat.ne_of_lt (Nat.lt_of_lt_of_le (own_Arr.lt Arr_73) y84_0)
    have ne_o19_b2_84 : o19 ≠ b2_84 := Nat.ne_of_lt (Nat.lt_of_lt_of_le (own_Arr.lt Arr_73) y84_1)
    have ne_o19_b3_84 : o19 ≠ b3_84 := Nat.ne_of_lt (Nat.lt_of_lt_of_le (own_Arr.lt Arr_73) y84_2)
    have ne_o70_b1_84 : o70 ≠ b1_84 := Nat.ne_of_lt (Nat.lt_of_lt_of_le A70.lt y84_0)
    have ne_o70_b2_84 : o70 ≠ b2_84 := Nat.ne_of_lt (Nat.lt_of_lt_of_le A70.lt y84_1)
    have ne_o70_b3_84 : o70 ≠ b3_84 := Nat.ne_of_lt (Nat.lt_of_lt_of_le A70.lt y84_2)
    have Siz_85 := Nat.le_trans Siz_71 K84.1
    have Arr_86 := own_Arr.keep K84 Arr_72 (ninS ne70_o1 nin0)
    have Arr_87 := own_Arr.keep K84 Arr_73 (ninS ne70_o19 nin0)
    have Exa_88 := A70.keep K84
    show own_Goes p e below T84 (mkF m 245 #[.val (.int p1), .val (.int p2), .val (.int p3), .val (.int p4), .val (.int p5), .val (.int (0 : Int32)), .val (.int (Int32.ofNat S1)), .val (.int (Int32.ofNat S2)), .val (.int (Int32.ofNat S3)), .val (.int (Int32.ofNat S4)), .val (.ref o1), .val (.int (Int32.ofNat I)), .val (.int (Int32.ofNat N)), .val (.int rm), .val (.int (Int32.ofNat F)), .val (.ref o19), .unset, .unset, .unset, .unset, .unset, .unset, .unset] [(.ref o70)]) (own_Ret s (K_rm_law  Z h0 n0 p1 p2 p3 p4 p5) room_1.cells room_1.slots)
    refine own_astore X84 hx (Ls' := #[.val (.int p1), .val (.int p2), .val (.int p3), .val (.int p4), .val (.int p5), .val (.int (0 : Int32)), .val (.int (Int32.ofNat S1)), .val (.int (Int32.ofNat S2)), .val (.int (Int32.ofNat S3)), .val (.int (Int32.ofNat S4)), .val (.ref o1), .val (.int (Int32.ofNat I)), .val (.int (Int32.ofNat N)), .val (.int rm), .val (.int (Int32.ofNat F)), .val (.ref o19), .val (.ref o70), .unset, .unset, .unset, .unset, .unset, .unset]) (pc' := 247) rfl (hb hby at_245) rfl rfl ?_
    refine own_aload X84 hx (pc' := 249) rfl (hb hby at_247) rfl rfl ?_
    refine own_lconst X84 hx (v := (0 : Int64)) (pc' := 250) rfl (hb hby at_249) rfl ?_
    refine own_iconst X84 hx (v := (5 : Int32)) (pc' := 251) rfl (hb hby at_250) rfl ?_
    refine own_iconst X84 hx (v := (5 : Int32)) (pc' := 252) rfl (hb hby at_251) rfl ?_
    refine own_callV X84 hx hZ (y := (⟨"com/example/ferrule/ferrule/fusion/CellKernel$Batch", "run", "(JII)V"⟩ : MethodName)) hown (hw _ (List.mem_of_getElem? (i := 21) rfl)) (hw _ (List.mem_of_getElem? (i := 22) rfl)) (hw _ (List.mem_of_getElem? (i := 24) rfl)) (hw _ (List.mem_of_getElem? (i := 23) rfl)) (hw _ (List.mem_of_getElem? (i := 4) rfl)) (hw _ (List.mem_of_getElem? (i := 25) rfl)) Exa_88  (by decide) (rm_run l Z a0 hw [] b1_84 b2_84 b3_84 o70 (0 : Int64) (5 : Int32) (5 : Int32) h84 n0 Siz_85 Exa_88 F84_0 F84_1 F84_2 F84_3 F84_4 F84_5 F84_6 F84_7 F84_8 ge70) (by decide) (W := 0) (by decide) (by decide) (by decide) e84 (by rw [hml]; rfl) (argsL := [(.long (0 : Int64)), (.int (5 : Int32)), (.int (5 : Int32))]) (rest := []) rfl (lenOf pd__JII_V rfl) rfl (Nat.le_of_eq rfl) (pc' := 255) rfl (hb hby at_252) ?_
    rintro _ T99 L99 X99 ⟨rfl, N99, K99, G99_0, G99_1, G99_2, G99_3, G99_4, G99_5, G99_6⟩
    have M99 := Fr.app M84 N99
    obtain ⟨h99, e99⟩ : ∃ z, T99.heap = z := ⟨_, rfl⟩
    rw [e99] at K99 G99_0 G99_1 G99_2 G99_3 G99_4 G99_5 G99_6
    have Siz_100 := Nat.le_trans Siz_85 K99.1
    have Arr_101 := own_Arr.keep K99 Arr_86 (ninS ne70_o1 nin0)
    have Arr_102 := own_Arr.keep K99 Arr_87 (ninS ne70_o19 nin0)
    have Exa_103 := Exa_88.keep K99
    have Exa_104 := A84.keep K99
    have Arr_114 := own_Arr.keep K99 V84_0 (ninS (Ne.symm ne_o70_b1_84) nin0)
    have Arr_115 := own_Arr.keep K99 V84_1 (ninS (Ne.symm ne_o70_b2_84) nin0)
    have Arr_116 := own_Arr.keep K99 V84_2 (ninS (Ne.symm ne_o70_b3_84) nin0)
    show own_Goes p e below T99 (mkF m 255 #[.val (.int p1), .val (.int p2), .val (.int p3), .val (.int p4), .val (.int p5), .val (.int (0 : Int32)), .val (.int (Int32.ofNat S1)), .val (.int (Int32.ofNat S2)), .val (.int (Int32.ofNat S3)), .val (.int (Int32.ofNat S4)), .val (.ref o1), .val (.int (Int32.ofNat I)), .val (.int (Int32.ofNat N)), .val (.int rm), .val (.int (Int32.ofNat F)), .val (.ref o19), .val (.ref o70), .unset, .unset, .unset, .unset, .unset, .unset] []) (own_Ret s (K_rm_law  Z h0 n0 p1 p2 p3 p4 p5) room_1.cells room_1.slots)
    refine own_aload X99 hx (pc' := 257) rfl (hb hby at_255) rfl rfl ?_
    refine own_iload X99 hx (pc' := 259) rfl (hb hby at_257) rfl ?_
    refine own_aload X99 hx (pc' := 261) rfl (hb hby at_259) rfl rfl ?_
    refine own_aload X99 hx (pc' := 263) rfl (hb hby at_261) rfl rfl ?_
    refine own_iload X99 hx (pc' := 265) rfl (hb hby at_263) rfl ?_
    refine own_iload X99 hx (pc' := 267) rfl (hb hby at_265) rfl ?_
    refine own_callV X99 hx hZ (y := (⟨"com/example/ferrule/ferrule/fusion/CellKernel$Batch", "takeAcrossRows", "(I[I[III)I"⟩ : MethodName)) hown (hw _ (List.mem_of_getElem? (i := 36) rfl)) (hw _ (List.mem_of_getElem? (i := 37) rfl)) (hw _ (List.mem_of_getElem? (i := 39) rfl)) (hw _ (List.mem_of_getElem? (i := 38) rfl)) (hw _ (List.mem_of_getElem? (i := 4) rfl)) (hw _ (List.mem_of_getElem? (i := 40) rfl)) Exa_103  (by decide) (rm_take l Z a0 hw [] b1_84 b2_84 b3_84 (own_upd (own_upd (own_upd (own_upd (own_upd (fun _ => (.int (0 : Int32))) 0 (.int (0 : Int32))) 1 (.int (Int32.ofNat S1))) 2 (.int (Int32.ofNat S2))) 3 (.int (Int32.ofNat S3))) 4 (.int (Int32.ofNat S4))) (own_upd (own_upd (own_upd (own_upd (own_upd (own_upd (own_upd (own_upd (own_upd (own_upd (own_upd (own_upd (fun _ => (.int (0 : Int32))) 0 (.int p5)) 1 (.int (p5 + (1000 : Int32)))) 2 (.int (p5 + (2000 : Int32)))) 3 (.int (p5 + (3000 : Int32)))) 4 (.int (p5 + (4000 : Int32)))) 5 (.int (p5 + (5000 : Int32)))) 6 (.int (p5 + (6000 : Int32)))) 7 (.int (p5 + (7000 : Int32)))) 8 (.int (p5 + (8000 : Int32)))) 9 (.int (p5 + (9000 : Int32)))) 10 (.int (p5 + (10000 : Int32)))) 11 (.int (p5 + (11000 : Int32)))) (Int32.ofNat S1) (Int32.ofNat S2) (Int32.ofNat S3) (Int32.ofNat S4) p5 F N (5 : Int32) (1 : Int32) (0 : Int32) o70 (Int32.ofNat I) o1 o19 (Int32.ofNat F) (Int32.ofNat N) h99 n0 Siz_100 Exa_103 G99_1 G99_2 G99_3 G99_4 G99_5 G99_6 Arr_101 Arr_102 Arr_114 Arr_115 Arr_116 ge70 ge_b1_84 ge_b2_84 ge_b3_84 ne_o70_b1_84 ne_o70_b2_84 ne_o70_b3_84 ne_o1_b1_84 ne_o1_b2_84 ne_o1_b3_84 ne_o19_b1_84 ne_o19_b2_84 ne_o19_b3_84 u84_0 u84_1 u84_2 ne70_o1 ne70_o19 ⟨rfl, rfl, rfl, rfl⟩ (own_cols rfl rfl rfl rfl rfl rfl rfl rfl rfl rfl rfl rfl) rfl (own_n4 hN) hFN hlt hge) (by decide) (W := 0) (by decide) (by decide) (by decide) e99 (by rw [hml]; rfl) (argsL := [(.int (Int32.ofNat I)), (.ref o1), (.ref o19), (.int (Int32.ofNat F)), (.int (Int32.ofNat N))]) (rest := []) rfl (lenOf pd__I_I_III_I rfl) rfl (Nat.le_of_eq rfl) (pc' := 270) rfl (hb hby at_267) ?_
    rintro _ T117 L117 X117 ⟨rfl, N117, K117, G117_0, G117_1, G117_2, G117_3, G117_4, G117_5, G117_6, G117_7, G117_8, G117_9⟩
    have M117 := Fr.app M99 N117
    obtain ⟨h117, e117⟩ : ∃ z, T117.heap = z := ⟨_, rfl⟩
    rw [e117] at K117 G117_0 G117_1 G117_2 G117_3 G117_4 G117_5 G117_6 G117_7 G117_8 G117_9
    have Siz_118 := Nat.le_trans Siz_100 K117.1
    have Arr_119 := own_Arr.keep K117 Arr_101 (ninS ne70_o1 (ninS ne_o1_b1_84 (ninS ne_o1_b2_84 (ninS ne_o1_b3_84 nin0))))
    have Arr_120 := own_Arr.keep K117 Arr_102 (ninS ne70_o19 (ninS ne_o19_b1_84 (ninS ne_o19_b2_84 (ninS ne_o19_b3_84 nin0))))
    have Exa_121 := Exa_103.keep K117
    have Exa_122 := Exa_104.keep K117
    have Exa_126 := G99_0.keep K117
    show own_Goes p e below T117 (mkF m 270 #[.val (.int p1), .val (.int p2), .val (.int p3), .val (.int p4), .val (.int p5), .val (.int (0 : Int32)), .val (.int (Int32.ofNat S1)), .val (.int (Int32.ofNat S2)), .val (.int (Int32.ofNat S3)), .val (.int (Int32.ofNat S4)), .val (.ref o1), .val (.int (Int32.ofNat I)), .val (.int (Int32.ofNat N)), .val (.int rm), .val (.int (Int32.ofNat F)), .val (.ref o19), .val (.ref o70), .unset, .unset, .unset, .unset, .unset, .unset] [(.int (own_last (Int32.ofNat I) (Int32.ofNat S1) (Int32.ofNat S2) (Int32.ofNat S3) F N))]) (own_Ret s (K_rm_law  Z h0 n0 p1 p2 p3 p4 p5) room_1.cells room_1.slots)
    refine own_istore X117 hx (Ls' := #[.val (.int p1), .val (.int p2), .val (.int p3), .val (.int p4), .val (.int p5), .val (.int (0 : Int32)), .val (.int (Int32.ofNat S1)), .val (.int (Int32.ofNat S2)), .val (.int (Int32.ofNat S3)), .val (.int (Int32.ofNat S4)), .val (.ref o1), .val (.int (Int32.ofNat I)), .val (.int (Int32.ofNat N)), .val (.int rm), .val (.int (Int32.ofNat F)), .val (.ref o19), .val (.ref o70), .val (.int (own_last (Int32.ofNat I) (Int32.ofNat S1) (Int32.ofNat S2) (Int32.ofNat S3) F N)), .unset, .unset, .unset, .unset, .unset]) (pc' := 272) rfl (hb hby at_270) rfl ?_
    refine own_aload X117 hx (pc' := 274) rfl (hb hby at_272) rfl rfl ?_
    refine own_getF X117 hx hZ hown (host := "") (Or.inl (hw _ (List.mem_of_getElem? (i := 41) rfl))) Via.refl e117 G117_4 (pc' := 277) rfl (hb hby at_274) ?_
    intro T133 X133 e133
    refine own_iload X133 hx (pc' := 279) rfl (hb hby at_277) rfl ?_
    refine own_icmpF X133 hx (pc' := 282) rfl (hb hby at_279) (XT.ii_ne_f rfl) ?_
    refine own_aload X133 hx (pc' := 284) rfl (hb hby at_282) rfl rfl ?_
    refine own_callV X133 hx hZ (y := (⟨"com/example/ferrule/ferrule/fusion/CellKernel$Batch", "isRun", "()Z"⟩ : MethodName)) hown (hw _ (List.mem_of_getElem? (i := 42) rfl)) (hw _ (List.mem_of_getElem? (i := 43) rfl)) (hw _ (List.mem_of_getElem? (i := 45) rfl)) (hw _ (List.mem_of_getElem? (i := 44) rfl)) (hw _ (List.mem_of_getElem? (i := 4) rfl)) (hw _ (List.mem_of_getElem? (i := 46) rfl)) Exa_121  (by decide) (rm_isrun l Z a0 hw [] o70 h117 n0 Siz_118 Exa_121 G117_5) (by decide) (W := 0) (by decide) (by decide) (by decide) e133 (by rw [hml]; rfl) (argsL := []) (rest := []) rfl (lenOf pd___Z rfl) rfl (Nat.le_of_eq rfl) (pc' := 287) rfl (hb hby at_284) ?_
    rintro _ T134 L134 X134 ⟨rfl, N134, e134⟩
    have M134 := Fr.app M117 N134
    show own_Goes p e below T134 (mkF m 287 #[.val (.int p1), .val (.int p2), .val (.int p3), .val (.int p4), .val (.int p5), .val (.int (0 : Int32)), .val (.int (Int32.ofNat S1)), .val (.int (Int32.ofNat S2)), .val (.int (Int32.ofNat S3)), .val (.int (Int32.ofNat S4)), .val (.ref o1), .val (.int (Int32.ofNat I)), .val (.int (Int32.ofNat N)), .val (.int rm), .val (.int (Int32.ofNat F)), .val (.ref o19), .val (.ref o70), .val (.int (own_last (Int32.ofNat I) (Int32.ofNat S1) (Int32.ofNat S2) (Int32.ofNat S3) F N)), .unset, .unset, .unset, .unset, .unset] [(.int (0 : Int32))]) (own_Ret s (K_rm_law  Z h0 n0 p1 p2 p3 p4 p5) room_1.cells room_1.slots)
    refine own_ifF X134 hx (pc' := 290) rfl (hb hby at_287) (XT.i0_ne_f (by decide)) ?_
    refine own_iconst X134 hx (v := (1 : Int32)) (pc' := 291) rfl (hb hby at_290) rfl ?_
    refine own_goto X134 hx (pc' := 295) (hb hby at_291) (by decide) (by decide) ?_
    refine own_istore X134 hx (Ls' := #[.val (.int p1), .val (.int p2), .val (.int p3), .val (.int p4), .val (.int p5), .val (.int (0 : Int32)), .val (.int (Int32.ofNat S1)), .val (.int (Int32.ofNat S2)), .val (.int (Int32.ofNat S3)), .val (.int (Int32.ofNat S4)), .val (.ref o1), .val (.int (Int32.ofNat I)), .val (.int (Int32.ofNat N)), .val (.int rm), .val (.int (Int32.ofNat F)), .val (.ref o19), .val (.ref o70), .val (.int (own_last (Int32.ofNat I) (Int32.ofNat S1) (Int32.ofNat S2) (Int32.ofNat S3) F N)), .val (.int (1 : Int32)), .unset, .unset, .unset, .unset]) (pc' := 297) rfl (hb hby at_295) rfl ?_
    refine own_aload X134 hx (pc' := 299) rfl (hb hby at_297) rfl rfl ?_
    refine own_callV X134 hx hZ (y := (⟨"com/example/ferrule/ferrule/fusion/CellKernel$Batch", "rows", "()[I"⟩ : MethodName)) hown (hw _ (List.mem_of_getElem? (i := 47) rfl)) (hw _ (List.mem_of_getElem? (i := 48) rfl)) (hw _ (List.mem_of_getElem? (i := 50) rfl)) (hw _ (List.mem_of_getElem? (i := 49) rfl)) (hw _ (List.mem_of_getElem? (i := 4) rfl)) (hw _ (List.mem_of_getElem? (i := 51) rfl)) Exa_121  (by decide) (rm_rows l Z a0 hw [] b1_84 o70 h117 n0 Siz_118 Exa_121 G117_6 G117_1) (by decide) (W := 0) (by decide) (by decide) (by decide) e134 (by rw [hml]; rfl) (argsL := []) (rest := []) rfl (lenOf pd____I rfl) rfl (Nat.le_of_eq rfl) (pc' := 302) rfl (hb hby at_299) ?_
    rintro _ T135 L135 X135 ⟨rfl, N135, e135⟩
    have M135 := Fr.app M134 N135
    show own_Goes p e below T135 (mkF m 302 #[.val (.int p1), .val (.int p2), .val (.int p3), .val (.int p4), .val (.int p5), .val (.int (0 : Int32)), .val (.int (Int32.ofNat S1)), .val (.int (Int32.ofNat S2)), .val (.int (Int32.ofNat S3)), .val (.int (Int32.ofNat S4)), .val (.ref o1), .val (.int (Int32.ofNat I)), .val (.int (Int32.ofNat N)), .val (.int rm), .val (.int (Int32.ofNat F)), .val (.ref o19), .val (.ref o70), .val (.int (own_last (Int32.ofNat I) (Int32.ofNat S1) (Int32.ofNat S2) (Int32.ofNat S3) F N)), .val (.int (1 : Int32)), .unset, .unset, .unset, .unset] [(.ref b1_84)]) (own_Ret s (K_rm_law  Z h0 n0 p1 p2 p3 p4 p5) room_1.cells room_1.slots)
    refine own_astore X135 hx (Ls' := #[.val (.int p1), .val (.int p2), .val (.int p3), .val (.int p4), .val (.int p5), .val (.int (0 : Int32)), .val (.int (Int32.ofNat S1)), .val (.int (Int32.ofNat S2)), .val (.int (Int32.ofNat S3)), .val (.int (Int32.ofNat S4)), .val (.ref o1), .val (.int (Int32.ofNat I)), .val (.int (Int32.ofNat N)), .val (.int rm), .val (.int (Int32.ofNat F)), .val (.ref o19), .val (.ref o70), .val (.int (own_last (Int32.ofNat I) (Int32.ofNat S1) (Int32.ofNat S2) (Int32.ofNat S3) F N)), .val (.int (1 : Int32)), .val (.ref b1_84), .unset, .unset, .unset]) (pc' := 304) rfl (hb hby at_302) rfl rfl ?_
    refine own_aload X135 hx (pc' := 306) rfl (hb hby at_304) rfl rfl ?_
    refine own_callV X135 hx hZ (y := (⟨"com/example/ferrule/ferrule/fusion/CellKernel$Batch", "cols", "()[I"⟩ : MethodName)) hown (hw _ (List.mem_of_getElem? (i := 56) rfl)) (hw _ (List.mem_of_getElem? (i := 57) rfl)) (hw _ (List.mem_of_getElem? (i := 59) rfl)) (hw _ (List.mem_of_getElem? (i := 58) rfl)) (hw _ (List.mem_of_getElem? (i := 4) rfl)) (hw _ (List.mem_of_getElem? (i := 60) rfl)) Exa_121  (by decide) (rm_cols l Z a0 hw [] b2_84 o70 h117 n0 Siz_118 Exa_121 G117_6 G117_2) (by decide) (W := 0) (by decide) (by decide) (by decide) e135 (by rw [hml]; rfl) (argsL := []) (rest := []) rfl (lenOf pd____I rfl) rfl (Nat.le_of_eq rfl) (pc' := 309) rfl (hb hby at_306) ?_
    rintro _ T136 L136 X136 ⟨rfl, N136, e136⟩
    have M136 := Fr.app M135 N136
    show own_Goes p e below T136 (mkF m 309 #[.val (.int p1), .val (.int p2), .val (.int p3), .val (.int p4), .val (.int p5), .val (.int (0 : Int32)), .val (.int (Int32.ofNat S1)), .val (.int (Int32.ofNat S2)), .val (.int (Int32.ofNat S3)), .val (.int (Int32.ofNat S4)), .val (.ref o1), .val (.int (Int32.ofNat I)), .val (.int (Int32.ofNat N)), .val (.int rm), .val (.int (Int32.ofNat F)), .val (.ref o19), .val (.ref o70), .val (.int (own_last (Int32.ofNat I) (Int32.ofNat S1) (Int32.ofNat S2) (Int32.ofNat S3) F N)), .val (.int (1 : Int32)), .val (.ref b1_84), .unset, .unset, .unset] [(.ref b2_84)]) (own_Ret s (K_rm_law  Z h0 n0 p1 p2 p3 p4 p5) room_1.cells room_1.slots)
    refine own_astore X136 hx (Ls' := #[.val (.int p1), .val (.int p2), .val (.int p3), .val (.int p4), .val (.int p5), .val (.int (0 : Int32)), .val (.int (Int32.ofNat S1)), .val (.int (Int32.ofNat S2)), .val (.int (Int32.ofNat S3)), .val (.int (Int32.ofNat S4)), .val (.ref o1), .val (.int (Int32.ofNat I)), .val (.int (Int32.ofNat N)), .val (.int rm), .val (.int (Int32.ofNat F)), .val (.ref o19), .val (.ref o70), .val (.int (own_last (Int32.ofNat I) (Int32.ofNat S1) (Int32.ofNat S2) (Int32.ofNat S3) F N)), .val (.int (1 : Int32)), .val (.ref b1_84), .val (.ref b2_84), .unset, .unset]) (pc' := 311) rfl (hb hby at_309) rfl rfl ?_
    refine own_aload X136 hx (pc' := 313) rfl (hb hby at_311) rfl rfl ?_
    refine own_getF X136 hx hZ hown (host := "") (Or.inl (hw _ (List.mem_of_getElem? (i := 61) rfl))) Via.refl e136 G117_3 (pc' := 316) rfl (hb hby at_313) ?_
    intro T137 X137 e137
    refine own_astore X137 hx (Ls' := #[.val (.int p1), .val (.int p2), .val (.int p3), .val (.int p4), .val (.int p5), .val (.int (0 : Int32)), .val (.int (Int32.ofNat S1)), .val (.int (Int32.ofNat S2)), .val (.int (Int32.ofNat S3)), .val (.int (Int32.ofNat S4)), .val (.ref o1), .val (.int (Int32.ofNat I)), .val (.int (Int32.ofNat N)), .val (.int rm), .val (.int (Int32.ofNat F)), .val (.ref o19), .val (.ref o70), .val (.int (own_last (Int32.ofNat I) (Int32.ofNat S1) (Int32.ofNat S2) (Int32.ofNat S3) F N)), .val (.int (1 : Int32)), .val (.ref b1_84), .val (.ref b2_84), .val (.ref b3_84), .unset]) (pc' := 318) rfl (hb hby at_316) rfl rfl ?_
    refine own_iload X137 hx (pc' := 320) rfl (hb hby at_318) rfl ?_
    by_cases c320_138 : (Int32.ofNat N) = 0
    · refine own_ifF X137 hx (pc' := 323) rfl (hb hby at_320) (XT.i0_ne_f c320_138) ?_
      refine own_iload X137 hx (pc' := 325) rfl (hb hby at_323) rfl ?_
      refine own_goto X137 hx (pc' := 344) (hb hby at_325) (by decide) (by decide) ?_
      refine own_istore X137 hx (Ls' := #[.val (.int p1), .val (.int p2), .val (.int p3), .val (.int p4), .val (.int p5), .val (.int (0 : Int32)), .val (.int (Int32.ofNat S1)), .val (.int (Int32.ofNat S2)), .val (.int (Int32.ofNat S3)), .val (.int (Int32.ofNat S4)), .val (.ref o1), .val (.int (Int32.ofNat I)), .val (.int (Int32.ofNat N)), .val (.int rm), .val (.int (Int32.ofNat F)), .val (.ref o19), .val (.ref o70), .val (.int (own_last (Int32.ofNat I) (Int32.ofNat S1) (Int32.ofNat S2) (Int32.ofNat S3) F N)), .val (.int (1 : Int32)), .val (.ref b1_84), .val (.ref b2_84), .val (.ref b3_84), .val (.int (Int32.ofNat I))]) (pc' := 346) rfl (hb hby at_344) rfl ?_
      refine own_iload X137 hx (pc' := 348) rfl (hb hby at_346) rfl ?_
      refine own_ifF X137 hx (pc' := 351) rfl (hb hby at_348) (XT.i0_eq_f (by decide)) ?_
      refine own_iload X137 hx (pc' := 353) rfl (hb hby at_351) rfl ?_
      refine own_iload X137 hx (pc' := 355) rfl (hb hby at_353) rfl ?_
      refine own_icmpF X137 hx (pc' := 358) rfl (hb hby at_355) (XT.ii_ne_f (own_lastI c320_138 hN)) ?_
      refine own_iconst X137 hx (v := (1 : Int32)) (pc' := 359) rfl (hb hby at_358) rfl ?_
      refine own_goto X137 hx (pc' := 363) (hb hby at_359) (by decide) (by decide) ?_
      refine own_istore X137 hx (Ls' := #[.val (.int p1), .val (.int p2), .val (.int p3), .val (.int p4), .val (.int p5), .val (.int (0 : Int32)), .val (.int (Int32.ofNat S1)), .val (.int (Int32.ofNat S2)), .val (.int (Int32.ofNat S3)), .val (.int (Int32.ofNat S4)), .val (.ref o1), .val (.int (Int32.ofNat I)), .val (.int (Int32.ofNat N)), .val (.int rm), .val (.int (Int32.ofNat F)), .val (.ref o19), .val (.ref o70), .val (.int (own_last (Int32.ofNat I) (Int32.ofNat S1) (Int32.ofNat S2) (Int32.ofNat S3) F N)), .val (.int (1 : Int32)), .val (.ref b1_84), .val (.ref b2_84), .val (.ref b3_84), .val (.int (Int32.ofNat I))]) (pc' := 365) rfl (hb hby at_363) rfl ?_
      refine own_iload X137 hx (pc' := 367) rfl (hb hby at_365) rfl ?_
      refine own_ifF X137 hx (pc' := 370) rfl (hb hby at_367) (XT.i0_eq_f (by decide)) ?_
      refine own_iconst X137 hx (v := (0 : Int32)) (pc' := 371) rfl (hb hby at_370) rfl ?_
      refine own_iload X137 hx (pc' := 373) rfl (hb hby at_371) rfl ?_
      refine own_iload X137 hx (pc' := 375) rfl (hb hby at_373) rfl ?_
      refine own_iload X137 hx (pc' := 377) rfl (hb hby at_375) rfl ?_
      refine own_iload X137 hx (pc' := 379) rfl (hb hby at_377) rfl ?_
      refine own_iload X137 hx (pc' := 381) rfl (hb hby at_379) rfl ?_
      refine own_iload X137 hx (pc' := 383) rfl (hb hby at_381) rfl ?_
      refine own_aload X137 hx (pc' := 385) rfl (hb hby at_383) rfl rfl ?_
      refine own_aload X137 hx (pc' := 387) rfl (hb hby at_385) rfl rfl ?_
      refine own_aload X137 hx (pc' := 389) rfl (hb hby at_387) rfl rfl ?_
      refine own_callS X137 hx hZ (y := (⟨"com/example/ferrule/ferrule/fusion/BatchTakeAcrossRowsPinLaw", "cellOk", "(IIIIIII[I[I[I)Z"⟩ : MethodName)) hown (hw _ (List.mem_of_getElem? (i := 66) rfl)) (hw _ (List.mem_of_getElem? (i := 67) rfl)) (hw _ (List.mem_of_getElem? (i := 64) rfl)) (hw _ (List.mem_of_getElem? (i := 68) rfl))  (by decide) (rm_cell l Z a0 hw [] 0 N F (0 : Int32) (Int32.ofNat N) (Int32.ofNat F) p5 (Int32.ofNat S1) (Int32.ofNat S2) (Int32.ofNat S3) b1_84 b2_84 b3_84 h117 n0 Siz_118 G117_7 G117_8 G117_9 rfl rfl rfl (by decide) hN (by omega)) (by decide) (W := 0) (by decide) (by decide) (by decide) e137 (by rw [hml]; rfl) (argsL := [(.int (0 : Int32)), (.int (Int32.ofNat N)), (.int (Int32.ofNat F)), (.int p5), (.int (Int32.ofNat S1)), (.int (Int32.ofNat S2)), (.int (Int32.ofNat S3)), (.ref b1_84), (.ref b2_84), (.ref b3_84)]) (rest := []) rfl (lenOf pd__IIIIIII_I_I_I_Z rfl) rfl (Nat.le_of_eq rfl) (pc' := 392) rfl (hb hby at_389) ?_
      rintro _ T139 L139 X139 ⟨rfl, N139, e139⟩
      have M139 := Fr.app M136 N139
      show own_Goes p e below T139 (mkF m 392 #[.val (.int p1), .val (.int p2), .val (.int p3), .val (.int p4), .val (.int p5), .val (.int (0 : Int32)), .val (.int (Int32.ofNat S1)), .val (.int (Int32.ofNat S2)), .val (.int (Int32.ofNat S3)), .val (.int (Int32.ofNat S4)), .val (.ref o1), .val (.int (Int32.ofNat I)), .val (.int (Int32.ofNat N)), .val (.int rm), .val (.int (Int32.ofNat F)), .val (.ref o19), .val (.ref o70), .val (.int (own_last (Int32.ofNat I) (Int32.ofNat S1) (Int32.ofNat S2) (Int32.ofNat S3) F N)), .val (.int (1 : Int32)), .val (.ref b1_84), .val (.ref b2_84), .val (.ref b3_84), .val (.int (Int32.ofNat I))] [(.int (1 : Int32))]) (own_Ret s (K_rm_law  Z h0 n0 p1 p2 p3 p4 p5) room_1.cells room_1.slots)
      refine own_ifF X139 hx (pc' := 395) rfl (hb hby at_392) (XT.i0_eq_f (by decide)) ?_
      refine own_iconst X139 hx (v := (1 : Int32)) (pc' := 396) rfl (hb hby at_395) rfl ?_
      refine own_goto X139 hx (pc' := 400) (hb hby at_396) (by decide) (by decide) ?_
      refine own_istore X139 hx (Ls' := #[.val (.int p1), .val (.int p2), .val (.int p3), .val (.int p4), .val (.int p5), .val (.int (0 : Int32)), .val (.int (Int32.ofNat S1)), .val (.int (Int32.ofNat S2)), .val (.int (Int32.ofNat S3)), .val (.int (Int32.ofNat S4)), .val (.ref o1), .val (.int (Int32.ofNat I)), .val (.int (Int32.ofNat N)), .val (.int rm), .val (.int (Int32.ofNat F)), .val (.ref o19), .val (.ref o70), .val (.int (own_last (Int32.ofNat I) (Int32.ofNat S1) (Int32.ofNat S2) (Int32.ofNat S3) F N)), .val (.int (1 : Int32)), .val (.ref b1_84), .val (.ref b2_84), .val (.ref b3_84), .val (.int (Int32.ofNat I))]) (pc' := 402) rfl (hb hby at_400) rfl ?_
      refine own_iload X139 hx (pc' := 404) rfl (hb hby at_402) rfl ?_
      refine own_ifF X139 hx (pc' := 407) rfl (hb hby at_404) (XT.i0_eq_f (by decide)) ?_
      refine own_iconst X139 hx (v := (1 : Int32)) (pc' := 408) rfl (hb hby at_407) rfl ?_
      refine own_iload X139 hx (pc' := 410) rfl (hb hby at_408) rfl ?_
      refine own_iload X139 hx (pc' := 412) rfl (hb hby at_410) rfl ?_
      refine own_iload X139 hx (pc' := 414) rfl (hb hby at_412) rfl ?_
      refine own_iload X139 hx (pc' := 416) rfl (hb hby at_414) rfl ?_
      refine own_iload X139 hx (pc' := 418) rfl (hb hby at_416) rfl ?_
      refine own_iload X139 hx (pc' := 420) rfl (hb hby at_418) rfl ?_
      refine own_aload X139 hx (pc' := 422) rfl (hb hby at_420) rfl rfl ?_
      refine own_aload X139 hx (pc' := 424) rfl (hb hby at_422) rfl rfl ?_
      refine own_aload X139 hx (pc' := 426) rfl (hb hby at_424) rfl rfl ?_
      refine own_callS X139 hx hZ (y := (⟨"com/example/ferrule/ferrule/fusion/BatchTakeAcrossRowsPinLaw", "cellOk", "(IIIIIII[I[I[I)Z"⟩ : MethodName)) hown (hw _ (List.mem_of_getElem? (i := 66) rfl)) (hw _ (List.mem_of_getElem? (i := 67) rfl)) (hw _ (List.mem_of_getElem? (i := 64) rfl)) (hw _ (List.mem_of_getElem? (i := 68) rfl))  (by decide) (rm_cell l Z a0 hw [] 1 N F (1 : Int32) (Int32.ofNat N) (Int32.ofNat F) p5 (Int32.ofNat S1) (Int32.ofNat S2) (Int32.ofNat S3) b1_84 b2_84 b3_84 h117 n0 Siz_118 G117_7 G117_8 G117_9 rfl rfl rfl (by decide) hN (by omega)) (by decide) (W := 0) (by decide) (by decide) (by decide) e139 (by rw [hml]; rfl) (argsL := [(.int (1 : Int32)), (.int (Int32.ofNat N)), (.int (Int32.ofNat F)), (.int p5), (.int (Int32.ofNat S1)), (.int (Int32.ofNat S2)), (.int (Int32.ofNat S3)), (.ref b1_84), (.ref b2_84), (.ref b3_84)]) (rest := []) rfl (lenOf pd__IIIIIII_I_I_I_Z rfl) rfl (Nat.le_of_eq rfl) (pc' := 429) rfl (hb hby at_426) ?_
      rintro _ T140 L140 X140 ⟨rfl, N140, e140⟩
      have M140 := Fr.app M139 N140
      show own_Goes p e below T140 (mkF m 429 #[.val (.int p1), .val (.int p2), .val (.int p3), .val (.int p4), .val (.int p5), .val (.int (0 : Int32)), .val (.int (Int32.ofNat S1)), .val (.int (Int32.ofNat S2)), .val (.int (Int32.ofNat S3)), .val (.int (Int32.ofNat S4)), .val (.ref o1), .val (.int (Int32.ofNat I)), .val (.int (Int32.ofNat N)), .val (.int rm), .val (.int (Int32.ofNat F)), .val (.ref o19), .val (.ref o70), .val (.int (own_last (Int32.ofNat I) (Int32.ofNat S1) (Int32.ofNat S2) (Int32.ofNat S3) F N)), .val (.int (1 : Int32)), .val (.ref b1_84), .val (.ref b2_84), .val (.ref b3_84), .val (.int (Int32.ofNat I))] [(.int (1 : Int32))]) (own_Ret s (K_rm_law  Z h0 n0 p1 p2 p3 p4 p5) room_1.cells room_1.slots)
      refine own_ifF X140 hx (pc' := 432) rfl (hb hby at_429) (XT.i0_eq_f (by decide)) ?_
      refine own_iconst X140 hx (v := (1 : Int32)) (pc' := 433) rfl (hb hby at_432) rfl ?_
      refine own_goto X140 hx (pc' := 437) (hb hby at_433) (by decide) (by decide) ?_
      refine own_istore X140 hx (Ls' := #[.val (.int p1), .val (.int p2), .val (.int p3), .val (.int p4), .val (.int p5), .val (.int (0 : Int32)), .val (.int (Int32.ofNat S1)), .val (.int (Int32.ofNat S2)), .val (.int (Int32.ofNat S3)), .val (.int (Int32.ofNat S4)), .val (.ref o1), .val (.int (Int32.ofNat I)), .val (.int (Int32.ofNat N)), .val (.int rm), .val (.int (Int32.ofNat F)), .val (.ref o19), .val (.ref o70), .val (.int (own_last (Int32.ofNat I) (Int32.ofNat S1) (Int32.ofNat S2) (Int32.ofNat S3) F N)), .val (.int (1 : Int32)), .val (.ref b1_84), .val (.ref b2_84), .val (.ref b3_84), .val (.int (Int32.ofNat I))]) (pc' := 439) rfl (hb hby at_437) rfl ?_
      refine own_iload X140 hx (pc' := 441) rfl (hb hby at_439) rfl ?_
      refine own_ifF X140 hx (pc' := 444) rfl (hb hby at_441) (XT.i0_eq_f (by decide)) ?_
      refine own_iconst X140 hx (v := (2 : Int32)) (pc' := 445) rfl (hb hby at_444) rfl ?_
      refine own_iload X140 hx (pc' := 447) rfl (hb hby at_445) rfl ?_
      refine own_iload X140 hx (pc' := 449) rfl (hb hby at_447) rfl ?_
      refine own_iload X140 hx (pc' := 451) rfl (hb hby at_449) rfl ?_
      refine own_iload X140 hx (pc' := 453) rfl (hb hby at_451) rfl ?_
      refine own_iload X140 hx (pc' := 455) rfl (hb hby at_453) rfl ?_
      refine own_iload X140 hx (pc' := 457) rfl (hb hby at_455) rfl ?_
      refine own_aload X140 hx (pc' := 459) rfl (hb hby at_457) rfl rfl ?_
      refine own_aload X140 hx (pc' := 461) rfl (hb hby at_459) rfl rfl ?_
      refine own_aload X140 hx (pc' := 463) rfl (hb hby at_461) rfl rfl ?_
      refine own_callS X140 hx hZ (y := (⟨"com/example/ferrule/ferrule/fusion/BatchTakeAcrossRowsPinLaw", "cellOk", "(IIIIIII[I[I[I)Z"⟩ : MethodName)) hown (hw _ (List.mem_of_getElem? (i := 66) rfl)) (hw _ (List.mem_of_getElem? (i := 67) rfl)) (hw _ (List.mem_of_getElem? (i := 64) rfl)) (hw _ (List.mem_of_getElem? (i := 68) rfl))  (by decide) (rm_cell l Z a0 hw [] 2 N F (2 : Int32) (Int32.ofNat N) (Int32.ofNat F) p5 (Int32.ofNat S1) (Int32.ofNat S2) (Int32.ofNat S3) b1_84 b2_84 b3_84 h117 n0 Siz_118 G117_7 G117_8 G117_9 rfl rfl rfl (by decide) hN (by omega)) (by decide) (W := 0) (by decide) (by decide) (by decide) e140 (by rw [hml]; rfl) (argsL := [(.int (2 : Int32)), (.int (Int32.ofNat N)), (.int (Int32.ofNat F)), (.int p5), (.int (Int32.ofNat S1)), (.int (Int32.ofNat S2)), (.int (Int32.ofNat S3)), (.ref b1_84), (.ref b2_84), (.ref b3_84)]) (rest := []) rfl (lenOf pd__IIIIIII_I_I_I_Z rfl) rfl (Nat.le_of_eq rfl) (pc' := 466) rfl (hb hby at_463) ?_
      rintro _ T141 L141 X141 ⟨rfl, N141, e141⟩
      have M141 := Fr.app M140 N141
      show own_Goes p e below T141 (mkF m 466 #[.val (.int p1), .val (.int p2), .val (.int p3), .val (.int p4), .val (.int p5), .val (.int (0 : Int32)), .val (.int (Int32.ofNat S1)), .val (.int (Int32.ofNat S2)), .val (.int (Int32.ofNat S3)), .val (.int (Int32.ofNat S4)), .val (.ref o1), .val (.int (Int32.ofNat I)), .val (.int (Int32.ofNat N)), .val (.int rm), .val (.int (Int32.ofNat F)), .val (.ref o19), .val (.ref o70), .val (.int (own_last (Int32.ofNat I) (Int32.ofNat S1) (Int32.ofNat S2) (Int32.ofNat S3) F N)), .val (.int (1 : Int32)), .val (.ref b1_84), .val (.ref b2_84), .val (.ref b3_84), .val (.int (Int32.ofNat I))] [(.int (1 : Int32))]) (own_Ret s (K_rm_law  Z h0 n0 p1 p2 p3 p4 p5) room_1.cells room_1.slots)
      refine own_ifF X141 hx (pc' := 469) rfl (hb hby at_466) (XT.i0_eq_f (by decide)) ?_
      refine own_iconst X141 hx (v := (1 : Int32)) (pc' := 470) rfl (hb hby at_469) rfl ?_
      refine own_goto X141 hx (pc' := 474) (hb hby at_470) (by decide) (by decide) ?_
      refine own_istore X141 hx (Ls' := #[.val (.int p1), .val (.int p2), .val (.int p3), .val (.int p4), .val (.int p5), .val (.int (0 : Int32)), .val (.int (Int32.ofNat S1)), .val (.int (Int32.ofNat S2)), .val (.int (Int32.ofNat S3)), .val (.int (Int32.ofNat S4)), .val (.ref o1), .val (.int (Int32.ofNat I)), .val (.int (Int32.ofNat N)), .val (.int rm), .val (.int (Int32.ofNat F)), .val (.ref o19), .val (.ref o70), .val (.int (own_last (Int32.ofNat I) (Int32.ofNat S1) (Int32.ofNat S2) (Int32.ofNat S3) F N)), .val (.int (1 : Int32)), .val (.ref b1_84), .val (.ref b2_84), .val (.ref b3_84), .val (.int (Int32.ofNat I))]) (pc' := 476) rfl (hb hby at_474) rfl ?_
      refine own_iload X141 hx (pc' := 478) rfl (hb hby at_476) rfl ?_
      refine own_zret X141 hx hlk hret (by simp) (hb hby at_478) (by decide) (by decide) ?_
      rw [e141]
      exact ⟨rfl, M141⟩
    · refine own_ifT X137 hx (pc' := 328) (hb hby at_320) (XT.i0_ne_t c320_138) (by decide) (by decide) ?_
      refine own_iload X137 hx (pc' := 330) rfl (hb hby at_328) rfl ?_
      refine own_iload X137 hx (pc' := 332) rfl (hb hby at_330) rfl ?_
      refine own_iadd X137 hx (v := ((Int32.ofNat F) + (Int32.ofNat N))) (pc' := 333) rfl (hb hby at_332) rfl ?_
      refine own_iconst X137 hx (v := (1 : Int32)) (pc' := 334) rfl (hb hby at_333) rfl ?_
      refine own_isub X137 hx (v := (((Int32.ofNat F) + (Int32.ofNat N)) - (1 : Int32))) (pc' := 335) rfl (hb hby at_334) rfl ?_
      refine own_iload X137 hx (pc' := 337) rfl (hb hby at_335) rfl ?_
      refine own_iload X137 hx (pc' := 339) rfl (hb hby at_337) rfl ?_
      refine own_iload X137 hx (pc' := 341) rfl (hb hby at_339) rfl ?_
      refine own_callS X137 hx hZ (y := (⟨"com/example/ferrule/ferrule/fusion/BatchTakeAcrossRowsPinLaw", "rowOf", "(IIII)I"⟩ : MethodName)) hown (hw _ (List.mem_of_getElem? (i := 62) rfl)) (hw _ (List.mem_of_getElem? (i := 63) rfl)) (hw _ (List.mem_of_getElem? (i := 64) rfl)) (hw _ (List.mem_of_getElem? (i := 65) rfl))  (by decide) (rm_rowof l Z a0 hw [] (((Int32.ofNat F) + (Int32.ofNat N)) - (1 : Int32)) (Int32.ofNat S1) (Int32.ofNat S2) (Int32.ofNat S3) h117 n0 Siz_118) (by decide) (W := 0) (by decide) (by decide) (by decide) e137 (by rw [hml]; rfl) (argsL := [(.int (((Int32.ofNat F) + (Int32.ofNat N)) - (1 : Int32))), (.int (Int32.ofNat S1)), (.int (Int32.ofNat S2)), (.int (Int32.ofNat S3))]) (rest := []) rfl (lenOf pd__IIII_I rfl) rfl (Nat.le_of_eq rfl) (pc' := 344) rfl (hb hby at_341) ?_
      rintro _ T142 L142 X142 ⟨rfl, N142, e142⟩
      have M142 := Fr.app M136 N142
      show own_Goes p e below T142 (mkF m 344 #[.val (.int p1), .val (.int p2), .val (.int p3), .val (.int p4), .val (.int p5), .val (.int (0 : Int32)), .val (.int (Int32.ofNat S1)), .val (.int (Int32.ofNat S2)), .val (.int (Int32.ofNat S3)), .val (.int (Int32.ofNat S4)), .val (.ref o1), .val (.int (Int32.ofNat I)), .val (.int (Int32.ofNat N)), .val (.int rm), .val (.int (Int32.ofNat F)), .val (.ref o19), .val (.ref o70), .val (.int (own_last (Int32.ofNat I) (Int32.ofNat S1) (Int32.ofNat S2) (Int32.ofNat S3) F N)), .val (.int (1 : Int32)), .val (.ref b1_84), .val (.ref b2_84), .val (.ref b3_84), .unset] [(.int (own_row (((Int32.ofNat F) + (Int32.ofNat N)) - (1 : Int32)) (Int32.ofNat S1) (Int32.ofNat S2) (Int32.ofNat S3)))]) (own_Ret s (K_rm_law  Z h0 n0 p1 p2 p3 p4 p5) room_1.cells room_1.slots)
      refine own_istore X142 hx (Ls' := #[.val (.int p1), .val (.int p2), .val (.int p3), .val (.int p4), .val (.int p5), .val (.int (0 : Int32)), .val (.int (Int32.ofNat S1)), .val (.int (Int32.ofNat S2)), .val (.int (Int32.ofNat S3)), .val (.int (Int32.ofNat S4)), .val (.ref o1), .val (.int (Int32.ofNat I)), .val (.int (Int32.ofNat N)), .val (.int rm), .val (.int (Int32.ofNat F)), .val (.ref o19), .val (.ref o70), .val (.int (own_last (Int32.ofNat I) (Int32.ofNat S1) (Int32.ofNat S2) (Int32.ofNat S3) F N)), .val (.int (1 : Int32)), .val (.ref b1_84), .val (.ref b2_84), .val (.ref b3_84), .val (.int (own_row (((Int32.ofNat F) + (Int32.ofNat N)) - (1 : Int32)) (Int32.ofNat S1) (Int32.ofNat S2) (Int32.ofNat S3)))]) (pc' := 346) rfl (hb hby at_344) rfl ?_
      refine own_iload X142 hx (pc' := 348) rfl (hb hby at_346) rfl ?_
      refine own_ifF X142 hx (pc' := 351) rfl (hb hby at_348) (XT.i0_eq_f (by decide)) ?_
      refine own_iload X142 hx (pc' := 353) rfl (hb hby at_351) rfl ?_
      refine own_iload X142 hx (pc' := 355) rfl (hb hby at_353) rfl ?_
      refine own_icmpF X142 hx (pc' := 358) rfl (hb hby at_355) (XT.ii_ne_f (own_lastR c320_138)) ?_
      refine own_iconst X142 hx (v := (1 : Int32)) (pc' := 359) rfl (hb hby at_358) rfl ?_
      refine own_goto X142 hx (pc' := 363) (hb hby at_359) (by decide) (by decide) ?_
      refine own_istore X142 hx (Ls' := #[.val (.int p1), .val (.int p2), .val (.int p3), .val (.int p4), .val (.int p5), .val (.int (0 : Int32)), .val (.int (Int32.ofNat S1)), .val (.int (Int32.ofNat S2)), .val (.int (Int32.ofNat S3)), .val (.int (Int32.ofNat S4)), .val (.ref o1), .val (.int (Int32.ofNat I)), .val (.int (Int32.ofNat N)), .val (.int rm), .val (.int (Int32.ofNat F)), .val (.ref o19), .val (.ref o70), .val (.int (own_last (Int32.ofNat I) (Int32.ofNat S1) (Int32.ofNat S2) (Int32.ofNat S3) F N)), .val (.int (1 : Int32)), .val (.ref b1_84), .val (.ref b2_84), .val (.ref b3_84), .val (.int (own_row (((Int32.ofNat F) + (Int32.ofNat N)) - (1 : Int32)) (Int32.ofNat S1) (Int32.ofNat S2) (Int32.ofNat S3)))]) (pc' := 365) rfl (hb hby at_363) rfl ?_
      refine own_iload X142 hx (pc' := 367) rfl (hb hby at_365) rfl ?_
      refine own_ifF X142 hx (pc' := 370) rfl (hb hby at_367) (XT.i0_eq_f (by decide)) ?_
      refine own_iconst X142 hx (v := (0 : Int32)) (pc' := 371) rfl (hb hby at_370) rfl ?_
      refine own_iload X142 hx (pc' := 373) rfl (hb hby at_371) rfl ?_
      refine own_iload X142 hx (pc' := 375) rfl (hb hby at_373) rfl ?_
      refine own_iload X142 hx (pc' := 377) rfl (hb hby at_375) rfl ?_
      refine own_iload X142 hx (pc' := 379) rfl (hb hby at_377) rfl ?_
      refine own_iload X142 hx (pc' := 381) rfl (hb hby at_379) rfl ?_
      refine own_iload X142 hx (pc' := 383) rfl (hb hby at_381) rfl ?_
      refine own_aload X142 hx (pc' := 385) rfl (hb hby at_383) rfl rfl ?_
      refine own_aload X142 hx (pc' := 387) rfl (hb hby at_385) rfl rfl ?_
      refine own_aload X142 hx (pc' := 389) rfl (hb hby at_387) rfl rfl ?_
      refine own_callS X142 hx hZ (y := (⟨"com/example/ferrule/ferrule/fusion/BatchTakeAcrossRowsPinLaw", "cellOk", "(IIIIIII[I[I[I)Z"⟩ : MethodName)) hown (hw _ (List.mem_of_getElem? (i := 66) rfl)) (hw _ (List.mem_of_getElem? (i := 67) rfl)) (hw _ (List.mem_of_getElem? (i := 64) rfl)) (hw _ (List.mem_of_getElem? (i := 68) rfl))  (by decide) (rm_cell l Z a0 hw [] 0 N F (0 : Int32) (Int32.ofNat N) (Int32.ofNat F) p5 (Int32.ofNat S1) (Int32.ofNat S2) (Int32.ofNat S3) b1_84 b2_84 b3_84 h117 n0 Siz_118 G117_7 G117_8 G117_9 rfl rfl rfl (by decide) hN (by omega)) (by decide) (W := 0) (by decide) (by decide) (by decide) e142 (by rw [hml]; rfl) (argsL := [(.int (0 : Int32)), (.int (Int32.ofNat N)), (.int (Int32.ofNat F)), (.int p5), (.int (Int32.ofNat S1)), (.int (Int32.ofNat S2)), (.int (Int32.ofNat S3)), (.ref b1_84), (.ref b2_84), (.ref b3_84)]) (rest := []) rfl (lenOf pd__IIIIIII_I_I_I_Z rfl) rfl (Nat.le_of_eq rfl) (pc' := 392) rfl (hb hby at_389) ?_
      rintro _ T143 L143 X143 ⟨rfl, N143, e143⟩
      have M143 := Fr.app M142 N143
      show own_Goes p e below T143 (mkF m 392 #[.val (.int p1), .val (.int p2), .val (.int p3), .val (.int p4), .val (.int p5), .val (.int (0 : Int32)), .val (.int (Int32.ofNat S1)), .val (.int (Int32.ofNat S2)), .val (.int (Int32.ofNat S3)), .val (.int (Int32.ofNat S4)), .val (.ref o1), .val (.int (Int32.ofNat I)), .val (.int (Int32.ofNat N)), .val (.int rm), .val (.int (Int32.ofNat F)), .val (.ref o19), .val (.ref o70), .val (.int (own_last (Int32.ofNat I) (Int32.ofNat S1) (Int32.ofNat S2) (Int32.ofNat S3) F N)), .val (.int (1 : Int32)), .val (.ref b1_84), .val (.ref b2_84), .val (.ref b3_84), .val (.int (own_row (((Int32.ofNat F) + (Int32.ofNat N)) - (1 : Int32)) (Int32.ofNat S1) (Int32.ofNat S2) (Int32.ofNat S3)))] [(.int (1 : Int32))]) (own_Ret s (K_rm_law  Z h0 n0 p1 p2 p3 p4 p5) room_1.cells room_1.slots)
      refine own_ifF X143 hx (pc' := 395) rfl (hb hby at_392) (XT.i0_eq_f (by decide)) ?_
      refine own_iconst X143 hx (v := (1 : Int32)) (pc' := 396) rfl (hb hby at_395) rfl ?_
      refine own_goto X143 hx (pc' := 400) (hb hby at_396) (by decide) (by decide) ?_
      refine own_istore X143 hx (Ls' := #[.val (.int p1), .val (.int p2), .val (.int p3), .val (.int p4), .val (.int p5), .val (.int (0 : Int32)), .val (.int (Int32.ofNat S1)), .val (.int (Int32.ofNat S2)), .val (.int (Int32.ofNat S3)), .val (.int (Int32.ofNat S4)), .val (.ref o1), .val (.int (Int32.ofNat I)), .val (.int (Int32.ofNat N)), .val (.int rm), .val (.int (Int32.ofNat F)), .val (.ref o19), .val (.ref o70), .val (.int (own_last (Int32.ofNat I) (Int32.ofNat S1) (Int32.ofNat S2) (Int32.ofNat S3) F N)), .val (.int (1 : Int32)), .val (.ref b1_84), .val (.ref b2_84), .val (.ref b3_84), .val (.int (own_row (((Int32.ofNat F) + (Int32.ofNat N)) - (1 : Int32)) (Int32.ofNat S1) (Int32.ofNat S2) (Int32.ofNat S3)))]) (pc' := 402) rfl (hb hby at_400) rfl ?_
      refine own_iload X143 hx (pc' := 404) rfl (hb hby at_402) rfl ?_
      refine own_ifF X143 hx (pc' := 407) rfl (hb hby at_404) (XT.i0_eq_f (by decide)) ?_
      refine own_iconst X143 hx (v := (1 : Int32)) (pc' := 408) rfl (hb hby at_407) rfl ?_
      refine own_iload X143 hx (pc' := 410) rfl (hb hby at_408) rfl ?_
      refine own_iload X143 hx (pc' := 412) rfl (hb hby at_410) rfl ?_
      refine own_iload X143 hx (pc' := 414) rfl (hb hby at_412) rfl ?_
      refine own_iload X143 hx (pc' := 416) rfl (hb hby at_414) rfl ?_
      refine own_iload X143 hx (pc' := 418) rfl (hb hby at_416) rfl ?_
      refine own_iload X143 hx (pc' := 420) rfl (hb hby at_418) rfl ?_
      refine own_aload X143 hx (pc' := 422) rfl (hb hby at_420) rfl rfl ?_
      refine own_aload X143 hx (pc' := 424) rfl (hb hby at_422) rfl rfl ?_
      refine own_aload X143 hx (pc' := 426) rfl (hb hby at_424) rfl rfl ?_
      refine own_callS X143 hx hZ (y := (⟨"com/example/ferrule/ferrule/fusion/BatchTakeAcrossRowsPinLaw", "cellOk", "(IIIIIII[I[I[I)Z"⟩ : MethodName)) hown (hw _ (List.mem_of_getElem? (i := 66) rfl)) (hw _ (List.mem_of_getElem? (i := 67) rfl)) (hw _ (List.mem_of_getElem? (i := 64) rfl)) (hw _ (List.mem_of_getElem? (i := 68) rfl))  (by decide) (rm_cell l Z a0 hw [] 1 N F (1 : Int32) (Int32.ofNat N) (Int32.ofNat F) p5 (Int32.ofNat S1) (Int32.ofNat S2) (Int32.ofNat S3) b1_84 b2_84 b3_84 h117 n0 Siz_118 G117_7 G117_8 G117_9 rfl rfl rfl (by decide) hN (by omega)) (by decide) (W := 0) (by decide) (by decide) (by decide) e143 (by rw [hml]; rfl) (argsL := [(.int (1 : Int32)), (.int (Int32.ofNat N)), (.int (Int32.ofNat F)), (.int p5), (.int (Int32.ofNat S1)), (.int (Int32.ofNat S2)), (.int (Int32.ofNat S3)), (.ref b1_84), (.ref b2_84), (.ref b3_84)]) (rest := []) rfl (lenOf pd__IIIIIII_I_I_I_Z rfl) rfl (Nat.le_of_eq rfl) (pc' := 429) rfl (hb hby at_426) ?_
      rintro _ T144 L144 X144 ⟨rfl, N144, e144⟩
      have M144 := Fr.app M143 N144
      show own_Goes p e below T144 (mkF m 429 #[.val (.int p1), .val (.int p2), .val (.int p3), .val (.int p4), .val (.int p5), .val (.int (0 : Int32)), .val (.int (Int32.ofNat S1)), .val (.int (Int32.ofNat S2)), .val (.int (Int32.ofNat S3)), .val (.int (Int32.ofNat S4)), .val (.ref o1), .val (.int (Int32.ofNat I)), .val (.int (Int32.ofNat N)), .val (.int rm), .val (.int (Int32.ofNat F)), .val (.ref o19), .val (.ref o70), .val (.int (own_last (Int32.ofNat I) (Int32.ofNat S1) (Int32.ofNat S2) (Int32.ofNat S3) F N)), .val (.int (1 : Int32)), .val (.ref b1_84), .val (.ref b2_84), .val (.ref b3_84), .val (.int (own_row (((Int32.ofNat F) + (Int32.ofNat N)) - (1 : Int32)) (Int32.ofNat S1) (Int32.ofNat S2) (Int32.ofNat S3)))] [(.int (1 : Int32))]) (own_Ret s (K_rm_law  Z h0 n0 p1 p2 p3 p4 p5) room_1.cells room_1.slots)
      refine own_ifF X144 hx (pc' := 432) rfl (hb hby at_429) (XT.i0_eq_f (by decide)) ?_
      refine own_iconst X144 hx (v := (1 : Int32)) (pc' := 433) rfl (hb hby at_432) rfl ?_
      refine own_goto X144 hx (pc' := 437) (hb hby at_433) (by decide) (by decide) ?_
      refine own_istore X144 hx (Ls' := #[.val (.int p1), .val (.int p2), .val (.int p3), .val (.int p4), .val (.int p5), .val (.int (0 : Int32)), .val (.int (Int32.ofNat S1)), .val (.int (Int32.ofNat S2)), .val (.int (Int32.ofNat S3)), .val (.int (Int32.ofNat S4)), .val (.ref o1), .val (.int (Int32.ofNat I)), .val (.int (Int32.ofNat N)), .val (.int rm), .val (.int (Int32.ofNat F)), .val (.ref o19), .val (.ref o70), .val (.int (own_last (Int32.ofNat I) (Int32.ofNat S1) (Int32.ofNat S2) (Int32.ofNat S3) F N)), .val (.int (1 : Int32)), .val (.ref b1_84), .val (.ref b2_84), .val (.ref b3_84), .val (.int (own_row (((Int32.ofNat F) + (Int32.ofNat N)) - (1 : Int32)) (Int32.ofNat S1) (Int32.ofNat S2) (Int32.ofNat S3)))]) (pc' := 439) rfl (hb hby at_437) rfl ?_
      refine own_iload X144 hx (pc' := 441) rfl (hb hby at_439) rfl ?_
      refine own_ifF X144 hx (pc' := 444) rfl (hb hby at_441) (XT.i0_eq_f (by decide)) ?_
      refine own_iconst X144 hx (v := (2 : Int32)) (pc' := 445) rfl (hb hby at_444) rfl ?_
      refine own_iload X144 hx (pc' := 447) rfl (hb hby at_445) rfl ?_
      refine own_iload X144 hx (pc' := 449) rfl (hb hby at_447) rfl ?_
      refine own_iload X144 hx (pc' := 451) rfl (hb hby at_449) rfl ?_
      refine own_iload X144 hx (pc' := 453) rfl (hb hby at_451) rfl ?_
      refine own_iload X144 hx (pc' := 455) rfl (hb hby at_453) rfl ?_
      refine own_iload X144 hx (pc' := 457) rfl (hb hby at_455) rfl ?_
      refine own_aload X144 hx (pc' := 459) rfl (hb hby at_457) rfl rfl ?_
      refine own_aload X144 hx (pc' := 461) rfl (hb hby at_459) rfl rfl ?_
      refine own_aload X144 hx (pc' := 463) rfl (hb hby at_461) rfl rfl ?_
      refine own_callS X144 hx hZ (y := (⟨"com/example/ferrule/ferrule/fusion/BatchTakeAcrossRowsPinLaw", "cellOk", "(IIIIIII[I[I[I)Z"⟩ : MethodName)) hown (hw _ (List.mem_of_getElem? (i := 66) rfl)) (hw _ (List.mem_of_getElem? (i := 67) rfl)) (hw _ (List.mem_of_getElem? (i := 64) rfl)) (hw _ (List.mem_of_getElem? (i := 68) rfl))  (by decide) (rm_cell l Z a0 hw [] 2 N F (2 : Int32) (Int32.ofNat N) (Int32.ofNat F) p5 (Int32.ofNat S1) (Int32.ofNat S2) (Int32.ofNat S3) b1_84 b2_84 b3_84 h117 n0 Siz_118 G117_7 G117_8 G117_9 rfl rfl rfl (by decide) hN (by omega)) (by decide) (W := 0) (by decide) (by decide) (by decide) e144 (by rw [hml]; rfl) (argsL := [(.int (2 : Int32)), (.int (Int32.ofNat N)), (.int (Int32.ofNat F)), (.int p5), (.int (Int32.ofNat S1)), (.int (Int32.ofNat S2)), (.int (Int32.ofNat S3)), (.ref b1_84), (.ref b2_84), (.ref b3_84)]) (rest := []) rfl (lenOf pd__IIIIIII_I_I_I_Z rfl) rfl (Nat.le_of_eq rfl) (pc' := 466) rfl (hb hby at_463) ?_
      rintro _ T145 L145 X145 ⟨rfl, N145, e145⟩
      have M145 := Fr.app M144 N145
      show own_Goes p e below T145 (mkF m 466 #[.val (.int p1), .val (.int p2), .val (.int p3), .val (.int p4), .val (.int p5), .val (.int (0 : Int32)), .val (.int (Int32.ofNat S1)), .val (.int (Int32.ofNat S2)), .val (.int (Int32.ofNat S3)), .val (.int (Int32.ofNat S4)), .val (.ref o1), .val (.int (Int32.ofNat I)), .val (.int (Int32.ofNat N)), .val (.int rm), .val (.int (Int32.ofNat F)), .val (.ref o19), .val (.ref o70), .val (.int (own_last (Int32.ofNat I) (Int32.ofNat S1) (Int32.ofNat S2) (Int32.ofNat S3) F N)), .val (.int (1 : Int32)), .val (.ref b1_84), .val (.ref b2_84), .val (.ref b3_84), .val (.int (own_row (((Int32.ofNat F) + (Int32.ofNat N)) - (1 : Int32)) (Int32.ofNat S1) (Int32.ofNat S2) (Int32.ofNat S3)))] [(.int (1 : Int32))]) (own_Ret s (K_rm_law  Z h0 n0 p1 p2 p3 p4 p5) room_1.cells room_1.slots)
      refine own_ifF X145 hx (pc' := 469) rfl (hb hby at_466) (XT.i0_eq_f (by decide)) ?_
      refine own_iconst X145 hx (v := (1 : Int32)) (pc' := 470) rfl (hb hby at_469) rfl ?_
      refine own_goto X145 hx (pc' := 474) (hb hby at_470) (by decide) (by decide) ?_
      refine own_istore X145 hx (Ls' := #[.val (.int p1), .val (.int p2), .val (.int p3), .val (.int p4), .val (.int p5), .val (.int (0 : Int32)), .val (.int (Int32.ofNat S1)), .val (.int (Int32.ofNat S2)), .val (.int (Int32.ofNat S3)), .val (.int (Int32.ofNat S4)), .val (.ref o1), .val (.int (Int32.ofNat I)), .val (.int (Int32.ofNat N)), .val (.int rm), .val (.int (Int32.ofNat F)), .val (.ref o19), .val (.ref o70), .val (.int (own_last (Int32.ofNat I) (Int32.ofNat S1) (Int32.ofNat S2) (Int32.ofNat S3) F N)), .val (.int (1 : Int32)), .val (.ref b1_84), .val (.ref b2_84), .val (.ref b3_84), .val (.int (own_row (((Int32.ofNat F) + (Int32.ofNat N)) - (1 : Int32)) (Int32.ofNat S1) (Int32.ofNat S2) (Int32.ofNat S3)))]) (pc' := 476) rfl (hb hby at_474) rfl ?_
      refine own_iload X145 hx (pc' := 478) rfl (hb hby at_476) rfl ?_
      refine own_zret X145 hx hlk hret (by simp) (hb hby at_478) (by decide) (by decide) ?_
      rw [e145]
      exact ⟨rfl, M145⟩
set_option maxRecDepth 65536 in
set_option maxHeartbeats 40000000 in
theorem comes_1 {Post : Tables → Env → Array Value → State → Outcome → State → Prop} (hpost : ∀ tb e args s v u, (limb_1_1.after args s (.returned v) u = true ∧ limb_1_2.after args s (.returned v) u = true ∧ True) → FrameEnd s (.returned v) u (Jvm.fieldLocs frame_1_writes args s ++ Jvm.arrayLocs frame_1_arrays args s ++ Jvm.staticLocs frame_1_statics s) 24 896 → Post tb e args s (.returned v) u) :
    ArmFor flags0 classFile x code maxLocals ret World_1 tables_1 room_1 Calls_1 rest_1 Pre_1 Post := by
  intro l hfl _ _ p e ha hc hk s m args below hf hA hF happ hP
  obtain ⟨hcalls, hrest, hpre⟩ := hP
  obtain ⟨-, -, -, hnamed, -, -, -, hat⟩ := (Spec.applies_iff hf).mp happ
  obtain ⟨hg, hn⟩ := and_e (Cond.before_iff.mp (show (Jvm.Cond.and given_1 narrow_1).before args s = true from hpre))
  obtain ⟨h1, hg1⟩ := and_e hg
  obtain ⟨w0, w1, w2, w3, w4, rfl⟩ : ∃ w0 w1 w2 w3 w4 : Value, args = #[w0, w1, w2, w3, w4] := by
    have hs : args.size = 5 := by simpa [Cond.value, given_1] using h1
    obtain ⟨L⟩ := args
    match L, hs with
    | [w0, w1, w2, w3, w4], _ => exact ⟨w0, w1, w2, w3, w4, rfl⟩
  have hw := fun d (hd : d ∈ tables_1) => atoms_spec (ws := Jvm.Cond.code x code maxLocals ret :: tables_1) hat d (List.mem_cons_of_mem _ hd)
  have hfit : Fit s := fun {y c} hc i hi => by
    obtain ⟨ha, rfl⟩ := Array.getElem?_eq_some_iff.mp hc
    have q := List.all_eq_true.mp ((Array.all_eq_true_iff_forall_mem.mp hF) _ (Array.getElem_mem ha)) i (List.mem_range.mpr hi)
    simpa [Array.getElem?_eq_getElem hi] using q
  obtain ⟨q0, hg2⟩ := and_e hg1
  obtain ⟨i0, ee0⟩ := is_v q0
  obtain rfl : w0 = (.int i0) := Option.some.inj ee0
  obtain ⟨q1, hg3⟩ := and_e hg2
  obtain ⟨i1, ee1⟩ := is_v q1
  obtain rfl : w1 = (.int i1) := Option.some.inj ee1
  obtain ⟨q2, hg4⟩ := and_e hg3
  obtain ⟨i2, ee2⟩ := is_v q2
  obtain rfl : w2 = (.int i2) := Option.some.inj ee2
  obtain ⟨q3, hg5⟩ := and_e hg4
  obtain ⟨i3, ee3⟩ := is_v q3
  obtain rfl : w3 = (.int i3) := Option.some.inj ee3
  obtain ⟨i4, ee4⟩ := is_v hg5
  obtain rfl : w4 = (.int i4) := Option.some.inj ee4
  obtain ⟨n, o, h1, h2, h3, _, L, rfl, ⟨rfl, N⟩, hq⟩ := rm_law l s _ hw tables_1  i0 i1 i2 i3 i4 s.heap s.heap.size (Nat.le_refl _) p e ha hc hk s m _ below hf ((Spec.applies_iff_loose hf).mp happ).1 ⟨rfl, State.Warmed39.refl s, rfl⟩ trivial
  refine ⟨n, _, h1, h2, h3, hpost _ _ _ _ _ _ ⟨Cond.after_iff.mpr rfl, Cond.after_iff.mpr (eq_i res_at (Term.int_eval (1)) rfl), trivial⟩ ⟨hq.1, hq.2.1, (hq.2.2.sift fun y hy => Or.inr (N y hy)).mono (by decide) (by decide)⟩⟩
theorem main_1_1 : Claimed_1_1 := comes_1 fun _ _ _ _ _ _ h hF => ⟨h.1, hF⟩
theorem main_1_2 : Claimed_1_2 := comes_1 fun _ _ _ _ _ _ h hF => ⟨h.2.1, hF⟩
end Jvm.Pilot.@@N@@
namespace Jvm.Pilot.@@N@@
open Jvm Jvm.ClassFile Sem Op Lib Jvm.Free Jvm.Stand Jvm.Pilot.@@N@@.Jvm.D
/-! MADE BY PROGRAM (witnessworld.py) out of the Statement's table words and the real class files: 9 classes; the members and pool entries that the words name. The judged class is class 1, her method 1. -/
namespace start1
open Jvm.ClassFile
def u (s : String) : CpInfo := .utf8 (stringToUtf16 s)
/-- a pool by its gaps: so many unusable entries, then the entry; so many at the end -/
def gap : Nat → List CpInfo → List CpInfo
  | 0, r => r
  | n + 1, r => .unusable :: gap n r
def poolList (es : List (Nat × CpInfo)) (last : Nat) : List CpInfo := es.foldr (fun e r => gap e.1 (e.2 :: r)) (gap last [])
def pool (es : List (Nat × CpInfo)) (last : Nat) : Array CpInfo := ⟨poolList es last⟩
def fileOf (pool : Array CpInfo) (this : Nat) (attrs : Array Attribute := #[]) (ms : Array MethodInfo := #[]) (fl : Nat := 33) (sup : Nat := 0) (ifs : Array Nat := #[]) (fds : Array FieldInfo := #[]) : ClassFile where
  minorVersion := 0
  majorVersion := 65
  constantPool := pool
  accessFlags := fl
  thisClass := this
  superClass := sup
  interfaces := ifs
  fields := fds
  methods := ms
  attributes := attrs
def plain (name : String) (sup : Option ClassId) : Class where
  name := name
  kind := .ordinary
  loader := none
  accessFlags := 33
  super := sup
  interfaces := #[]
  cf := none
  fields := #[]
  methods := #[]
  instanceTypes := #[]
  staticTypes := #[]
  resolved := #[]
  callSites := []
  init := .initialized
  statics := none
  mirror := none

def pool0 : Array CpInfo := pool [(5, u "<init>"), (0, u "()V"), (1, .class_ 10), (1, u "java/lang/Object")] 113

def k0c0 : Code := { maxStack := 0, maxLocals := 1, code := object_method_1_code, exceptionTable := #[], attributes := #[] }
def k0m0 : Method := { name := "<init>", desc := "()V", sig := { parameters := [], returnType := none }, accessFlags := 1, code := some k0c0 }
/-- java/lang/Object -/
def k0 : Class := { plain "java/lang/Object" none with
  accessFlags := 33
  interfaces := #[]
  cf := some (fileOf pool0 8 #[] #[{ accessFlags := 1, nameIndex := 5, descriptorIndex := 6, attributes := #[] }] 33 0 #[] #[])
  fields := #[]
  methods := #[k0m0]
  instanceTypes := #[]
  staticTypes := #[]
  resolved := Array.replicate 124 none
  statics := none }

def pool1 : Array CpInfo := pool [(2, .class_ 4), (1, u "java/lang/Object"), (0, u "<init>"), (0, u "()V"), (0, .integer 2147483647), (0, .class_ 9), (0, u "com/example/ferrule/ferrule/fusion/CellKernel$Batch"), (0, .methodref 8 11), (0, .nameAndType 5 12), (0, u "(I)V"), (0, .methodref 8 14), (0, .nameAndType 15 16), (0, u "run"), (0, u "(JII)V"), (0, .methodref 8 18), (0, .nameAndType 19 20), (0, u "takeAcrossRows"), (0, u "(I[I[III)I"), (0, .fieldref 8 22), (0, .nameAndType 23 24), (0, u "count"), (0, u "I"), (0, .methodref 8 26), (0, .nameAndType 27 28), (0, u "isRun"), (0, u "()Z"), (0, .methodref 8 30), (0, .nameAndType 31 32), (0, u "rows"), (0, u "()[I"), (0, .methodref 8 34), (0, .nameAndType 35 32), (0, u "cols"), (0, .fieldref 8 37), (0, .nameAndType 38 39), (0, u "places"), (0, u "[I"), (0, .methodref 41 42), (0, .class_ 43), (0, .nameAndType 44 45), (0, u "com/example/ferrule/ferrule/fusion/BatchTakeAcrossRowsPinLaw"), (0, u "rowOf"), (0, u "(IIII)I"), (0, .methodref 41 47), (0, .nameAndType 48 49), (0, u "cellOk"), (0, u "(IIIIIII[I[I[I)Z"), (2, u "law"), (0, u "(IIIII)Z")] 8

def k1m0 : Method := { name := "<init>", desc := "()V", sig := { parameters := [], returnType := none }, accessFlags := 1, code := none }
def k1c1 : Code := { maxStack := 10, maxLocals := 23, code := code, exceptionTable := #[], attributes := #[] }
def k1m1 : Method := { name := "law", desc := "(IIIII)Z", sig := { parameters := [.int, .int, .int, .int, .int], returnType := some .boolean }, accessFlags := 9, code := some k1c1 }
def k1c2 : Code := { maxStack := 2, maxLocals := 4, code := method_3_code, exceptionTable := #[], attributes := #[] }
def k1m2 : Method := { name := "rowOf", desc := "(IIII)I", sig := { parameters := [.int, .int, .int, .int], returnType := some .int }, accessFlags := 10, code := some k1c2 }
def k1c3 : Code := { maxStack := 5, maxLocals := 11, code := method_4_code, exceptionTable := #[], attributes := #[] }
def k1m3 : Method := { name := "cellOk", desc := "(IIIIIII[I[I[I)Z", sig := { parameters := [.int, .int, .int, .int, .int, .int, .int, (.array .int), (.array .int), (.array .int)], returnType := some .boolean }, accessFlags := 10, code := some k1c3 }
/-- com/example/ferrule/ferrule/fusion/BatchTakeAcrossRowsPinLaw -/
def k1 : Class := { plain "com/example/ferrule/ferrule/fusion/BatchTakeAcrossRowsPinLaw" (some 0) with
  accessFlags := 49
  interfaces := #[]
  cf := some (fileOf pool1 41 #[] #[{ accessFlags := 1, nameIndex := 5, descriptorIndex := 6, attributes := #[] }, { accessFlags := 9, nameIndex := 52, descriptorIndex := 53, attributes := #[] }, { accessFlags := 10, nameIndex := 44, descriptorIndex := 45, attributes := #[] }, { accessFlags := 10, nameIndex := 48, descriptorIndex := 49, attributes := #[] }] 49 2 #[] #[])
  fields := #[]
  methods := #[k1m0, k1m1, k1m2, k1m3]
  instanceTypes := #[]
  staticTypes := #[]
  resolved := Array.replicate 62 none
  statics := none }

def pool2 : Array CpInfo := pool [(1, .class_ 2), (0, u "com/example/ferrule/ferrule/fusion/CellKernel$Batch"), (2, u "<init>"), (0, u "(I)V"), (0, .methodref 8 9), (0, .class_ 10), (0, .nameAndType 5 11), (0, u "java/lang/Object"), (0, u "()V"), (0, .fieldref 1 13), (0, .nameAndType 14 15), (0, u "rows"), (0, u "[I"), (0, .fieldref 1 17), (0, .nameAndType 18 15), (0, u "cols"), (0, .fieldref 1 20), (0, .nameAndType 21 15), (0, u "places"), (0, .fieldref 1 23), (0, .nameAndType 24 25), (0, u "listed"), (0, u "Z"), (0, .fieldref 1 27), (0, .nameAndType 28 29), (0, u "most"), (0, u "I"), (0, .fieldref 1 31), (0, .nameAndType 32 29), (0, u "count"), (0, .fieldref 1 34), (0, .nameAndType 35 25), (0, u "run"), (0, .fieldref 1 37), (0, .nameAndType 38 29), (0, u "width"), (0, .fieldref 1 40), (0, .nameAndType 41 42), (0, u "first"), (0, u "J"), (0, .fieldref 1 44), (0, .nameAndType 45 25), (0, u "located"), (2, u "(JII)V"), (2, u "row"), (2, u "col"), (3, .methodref 1 59), (0, .nameAndType 60 11), (0, u "list"), (11, u "SIZE"), (6, u "isRun"), (0, u "()Z"), (2, u "()[I"), (2, u "takeAcrossRows"), (0, u "(I[I[III)I"), (6, .class_ 95), (0, u "com/example/ferrule/ferrule/fusion/CellKernel")] 2

def k2m0 : Method := { name := "<init>", desc := "()V", sig := { parameters := [], returnType := none }, accessFlags := 0, code := none }
def k2c1 : Code := { maxStack := 2, maxLocals := 2, code := prog_5_method_2_code, exceptionTable := #[], attributes := #[] }
def k2m1 : Method := { name := "<init>", desc := "(I)V", sig := { parameters := [.int], returnType := none }, accessFlags := 0, code := some k2c1 }
def k2c2 : Code := { maxStack := 3, maxLocals := 5, code := prog_5_method_5_code, exceptionTable := #[], attributes := #[] }
def k2m2 : Method := { name := "run", desc := "(JII)V", sig := { parameters := [.long, .int, .int], returnType := none }, accessFlags := 0, code := some k2c2 }
def k2c3 : Code := { maxStack := 1, maxLocals := 1, code := prog_5_method_7_code, exceptionTable := #[], attributes := #[] }
def k2m3 : Method := { name := "isRun", desc := "()Z", sig := { parameters := [], returnType := some .boolean }, accessFlags := 0, code := some k2c3 }
def k2c4 : Code := { maxStack := 1, maxLocals := 1, code := prog_5_method_13_code, exceptionTable := #[], attributes := #[] }
def k2m4 : Method := { name := "rows", desc := "()[I", sig := { parameters := [], returnType := some (.array .int) }, accessFlags := 0, code := some k2c4 }
def k2c5 : Code := { maxStack := 1, maxLocals := 1, code := prog_5_method_14_code, exceptionTable := #[], attributes := #[] }
def k2m5 : Method := { name := "cols", desc := "()[I", sig := { parameters := [], returnType := some (.array .int) }, accessFlags := 0, code := some k2c5 }
def k2c6 : Code := { maxStack := 3, maxLocals := 4, code := prog_5_method_15_code, exceptionTable := #[], attributes := #[] }
def k2m6 : Method := { name := "list", desc := "()V", sig := { parameters := [], returnType := none }, accessFlags := 2, code := some k2c6 }
def k2c7 : Code := { maxStack := 4, maxLocals := 9, code := prog_5_method_17_code, exceptionTable := #[], attributes := #[] }
def k2m7 : Method := { name := "takeAcrossRows", desc := "(I[I[III)I", sig := { parameters := [.int, (.array .int), (.array .int), .int, .int], returnType := some .int }, accessFlags := 0, code := some k2c7 }
/-- com/example/ferrule/ferrule/fusion/CellKernel$Batch -/
def k2 : Class := { plain "com/example/ferrule/ferrule/fusion/CellKernel$Batch" (some 0) with
  accessFlags := 49
  interfaces := #[]
  cf := some (fileOf pool2 1 #[.nestHost 94] #[{ accessFlags := 0, nameIndex := 5, descriptorIndex := 11, attributes := #[] }, { accessFlags := 0, nameIndex := 5, descriptorIndex := 6, attributes := #[] }, { accessFlags := 0, nameIndex := 35, descriptorIndex := 48, attributes := #[] }, { accessFlags := 0, nameIndex := 79, descriptorIndex := 80, attributes := #[] }, { accessFlags := 0, nameIndex := 14, descriptorIndex := 83, attributes := #[] }, { accessFlags := 0, nameIndex := 18, descriptorIndex := 83, attributes := #[] }, { accessFlags := 2, nameIndex := 60, descriptorIndex := 11, attributes := #[] }, { accessFlags := 0, nameIndex := 86, descriptorIndex := 87, attributes := #[] }] 49 8 #[] #[{ accessFlags := 25, nameIndex := 72, descriptorIndex := 29, attributes := #[] }, { accessFlags := 18, nameIndex := 28, descriptorIndex := 29, attributes := #[] }, { accessFlags := 18, nameIndex := 14, descriptorIndex := 15, attributes := #[] }, { accessFlags := 18, nameIndex := 18, descriptorIndex := 15, attributes := #[] }, { accessFlags := 16, nameIndex := 21, descriptorIndex := 15, attributes := #[] }, { accessFlags := 1, nameIndex := 32, descriptorIndex := 29, attributes := #[] }, { accessFlags := 2, nameIndex := 35, descriptorIndex := 25, attributes := #[] }, { accessFlags := 2, nameIndex := 38, descriptorIndex := 29, attributes := #[] }, { accessFlags := 2, nameIndex := 41, descriptorIndex := 42, attributes := #[] }, { accessFlags := 2, nameIndex := 51, descriptorIndex := 29, attributes := #[] }, { accessFlags := 2, nameIndex := 54, descriptorIndex := 29, attributes := #[] }, { accessFlags := 2, nameIndex := 45, descriptorIndex := 25, attributes := #[] }, { accessFlags := 2, nameIndex := 24, descriptorIndex := 25, attributes := #[] }])
  fields := #[{ name := "SIZE", type := .int, accessFlags := 25, slot := 0, constantValue := 0 }, { name := "most", type := .int, accessFlags := 18, slot := 0, constantValue := 0 }, { name := "rows", type := (.array .int), accessFlags := 18, slot := 1, constantValue := 0 }, { name := "cols", type := (.array .int), accessFlags := 18, slot := 2, constantValue := 0 }, { name := "places", type := (.array .int), accessFlags := 16, slot := 3, constantValue := 0 }, { name := "count", type := .int, accessFlags := 1, slot := 4, constantValue := 0 }, { name := "run", type := .boolean, accessFlags := 2, slot := 5, constantValue := 0 }, { name := "width", type := .int, accessFlags := 2, slot := 6, constantValue := 0 }, { name := "first", type := .long, accessFlags := 2, slot := 7, constantValue := 0 }, { name := "row", type := .int, accessFlags := 2, slot := 8, constantValue := 0 }, { name := "col", type := .int, accessFlags := 2, slot := 9, constantValue := 0 }, { name := "located", type := .boolean, accessFlags := 2, slot := 10, constantValue := 0 }, { name := "listed", type := .boolean, accessFlags := 2, slot := 11, constantValue := 0 }]
  methods := #[k2m0, k2m1, k2m2, k2m3, k2m4, k2m5, k2m6, k2m7]
  instanceTypes := #[.int, (.array .int), (.array .int), (.array .int), .int, .boolean, .int, .long, .int, .int, .boolean, .boolean]
  staticTypes := #[.int]
  resolved := Array.replicate 98 none
  statics := none }

def pool3 : Array CpInfo := pool [(1, u "java/lang/Cloneable"), (0, .class_ 1), (0, u "java/lang/Object"), (0, .class_ 3)] 3

/-- java/lang/Cloneable -/
def k3 : Class := { plain "java/lang/Cloneable" (some 0) with
  accessFlags := 1537
  interfaces := #[]
  cf := some (fileOf pool3 2 #[] #[] 1537 4 #[] #[])
  fields := #[]
  methods := #[]
  instanceTypes := #[]
  staticTypes := #[]
  resolved := Array.replicate 8 none
  statics := none }

def pool4 : Array CpInfo := pool [(1, u "java/io/Serializable"), (0, .class_ 1), (0, u "java/lang/Object"), (0, .class_ 3)] 3

/-- java/io/Serializable -/
def k4 : Class := { plain "java/io/Serializable" (some 0) with
  accessFlags := 1537
  interfaces := #[]
  cf := some (fileOf pool4 2 #[] #[] 1537 4 #[] #[])
  fields := #[]
  methods := #[]
  instanceTypes := #[]
  staticTypes := #[]
  resolved := Array.replicate 8 none
  statics := none }

/-- the primitive byte -/
def k5 : Class := { plain "byte" none with kind := .primitive 'B', accessFlags := 0x411 }
/-- [B -/
def k6 : Class := { plain "[B" (some 0) with kind := .array 5 .byte, interfaces := #[3, 4], accessFlags := 1041 }

/-- the primitive int -/
def k7 : Class := { plain "int" none with kind := .primitive 'I', accessFlags := 0x411 }
/-- [I -/
def k8 : Class := { plain "[I" (some 0) with kind := .array 7 .int, interfaces := #[3, 4], accessFlags := 1041 }

def heap : Heap := #[]
def classes : Array Class := #[k0, k1, k2, k3, k4, k5, k6, k7, k8]
def interned : List (Array UInt16 × Addr) := []
def slotsUsed : Nat := 0
def theMethod : MethodId := ⟨1, 1⟩
def args0 : Array Value := #[.int 5, .int 7, .int 9, .int 11, .int 3]
def aboutOver (below : List Frame) : State where
  vm := { classes := classes, interned := interned.toArray }
  heap := heap
  slotsUsed := slotsUsed
  threads := #[{ frames := .invoking theMethod args0 :: below }]
def below0 : List Frame := [.native { method := ⟨0, 0⟩, args := #[] }]
def about1 : State := aboutOver below0
def p0 : Program := .bare "" "" ""
def e0 : Env := launch0.env 0 0 0
theorem w_frames : about1.frames = Frame.invoking theMethod args0 :: below0 := rfl
set_option maxRecDepth 65536 in
theorem w_args : argsFit about1.vm theMethod args0 = true := by decide +kernel
set_option maxRecDepth 65536 in
theorem w_heap : heapFits about1 = true := by decide +kernel
set_option maxRecDepth 65536 in
theorem w_runnable : about1.curStatus? = some .runnable := by decide +kernel
set_option maxRecDepth 65536 in
theorem w_alone : about1.alone = true := by decide +kernel
set_option maxRecDepth 65536 in
theorem w_named : about1.methodNamed? x = some theMethod := by decide +kernel
set_option maxRecDepth 65536 in
theorem w_hears : about1.hears theMethod below0 = true := by decide +kernel
set_option maxRecDepth 65536 in
theorem w_ripe : about1.ripe theMethod args0 below0 = true := by decide +kernel
theorem w_running : about1.status = .running := rfl
set_option maxRecDepth 65536 in
theorem w_room : about1.hasRoom e0.platform room_1 = true :=
  launch0.hasRoom_least _ room_1 (by decide +kernel) (by decide +kernel) (by decide +kernel) (by decide +kernel) (by decide +kernel) (by decide +kernel)
theorem allAtoms_all (ts : List Jvm.Cond) (a : Array Jvm.Value) (st : Jvm.State) : (allAtoms ts).before a st = ts.all (fun c => c.before a st) := by
  induction ts with
  | nil => rfl
  | cons c t ih =>
    show (Jvm.Cond.and c (allAtoms t)).before a st = _
    rw [Jvm.Cond.before_and, ih, List.all_cons]
def words1 : List Jvm.Cond := Jvm.Cond.code x code maxLocals ret :: tables_1
/-- a 'code' word, met by the world's own term for the bytes: nothing is compared byte by byte -/
theorem code_word {y : MethodName} {bytes : ByteArray} {mx : Nat} {rt : Option FieldType} {a : Array Value} {s : State} {m : MethodId} {meth : Method} {c : Code} (h1 : s.methodNamed? y = some m) (h2 : s.vm.method? m = some meth) (h3 : meth.code = some c) (h4 : c.code = bytes)
    (h5 : (c.maxLocals == mx && c.exceptionTable.isEmpty && decide (c.maxStack ≤ mostOperands) && decide (meth.sig.returnType = rt) && !meth.locks && decide (parseMethodDescriptor y.desc = some meth.sig)) = true) : (Jvm.Cond.code y bytes mx rt).before a s = true := by
  simp only [Bool.and_eq_true, beq_iff_eq, Bool.not_eq_true', decide_eq_true_eq] at h5
  obtain ⟨⟨⟨⟨⟨g1, g2⟩, g3⟩, g4⟩, g5⟩, g6⟩ := h5
  simp [Cond.before, Cond.holds, Cond.value, h1, h2, h3, h4, g1, g2, g3, g4, g5, g6]
def isCode : Jvm.Cond → Bool
  | .code _ _ _ _ => true
  | _ => false
theorem all_split {L : List Jvm.Cond} {P : Jvm.Cond → Bool} (h1 : L.all (fun c => isCode c || P c) = true) (h2 : ∀ c ∈ L.filter isCode, P c = true) : L.all P = true := by
  refine List.all_eq_true.mpr fun c hc => ?_
  have h := List.all_eq_true.mp h1 c hc
  rcases Bool.eq_false_or_eq_true (isCode c) with hi | hi
  · exact h2 c (List.mem_filter.mpr ⟨hc, hi⟩)
  · simpa [hi] using h
set_option maxRecDepth 65536 in
theorem w_c0 : (Jvm.Cond.code x code maxLocals ret).before args0 about1 = true := code_word (m := ⟨1, 1⟩) (meth := k1m1) (c := k1c1) (by decide +kernel) rfl rfl rfl (by decide +kernel)
set_option maxRecDepth 65536 in
theorem w_c1 : (Jvm.Cond.code ({ cls := "com/example/ferrule/ferrule/fusion/CellKernel$Batch", name := "<init>", desc := "(I)V" } : Jvm.MethodName) prog_5_method_2_code (2 : Nat) (Option.none : Option Jvm.ClassFile.FieldType)).before args0 about1 = true := code_word (m := ⟨2, 1⟩) (meth := k2m1) (c := k2c1) (by decide +kernel) rfl rfl rfl (by decide +kernel)
set_option maxRecDepth 65536 in
theorem w_c2 : (Jvm.Cond.code ({ cls := "java/lang/Object", name := "<init>", desc := "()V" } : Jvm.MethodName) object_method_1_code (1 : Nat) (Option.none : Option Jvm.ClassFile.FieldType)).before args0 about1 = true := code_word (m := ⟨0, 0⟩) (meth := k0m0) (c := k0c0) (by decide +kernel) rfl rfl rfl (by decide +kernel)
set_option maxRecDepth 65536 in
theorem w_c3 : (Jvm.Cond.code ({ cls := "com/example/ferrule/ferrule/fusion/CellKernel$Batch", name := "run", desc := "(JII)V" } : Jvm.MethodName) prog_5_method_5_code (5 : Nat) (Option.none : Option Jvm.ClassFile.FieldType)).before args0 about1 = true := code_word (m := ⟨2, 2⟩) (meth := k2m2) (c := k2c2) (by decide +kernel) rfl rfl rfl (by decide +kernel)
set_option maxRecDepth 65536 in
theorem w_c4 : (Jvm.Cond.code ({ cls := "com/example/ferrule/ferrule/fusion/CellKernel$Batch", name := "takeAcrossRows", desc := "(I[I[III)I" } : Jvm.MethodName) prog_5_method_17_code (9 : Nat) (Option.some Jvm.ClassFile.FieldType.int)).before args0 about1 = true := code_word (m := ⟨2, 7⟩) (meth := k2m7) (c := k2c7) (by decide +kernel) rfl rfl rfl (by decide +kernel)
set_option maxRecDepth 65536 in
theorem w_c5 : (Jvm.Cond.code ({ cls := "com/example/ferrule/ferrule/fusion/CellKernel$Batch", name := "isRun", desc := "()Z" } : Jvm.MethodName) prog_5_method_7_code (1 : Nat) (Option.some Jvm.ClassFile.FieldType.boolean)).before args0 about1 = true := code_word (m := ⟨2, 3⟩) (meth := k2m3) (c := k2c3) (by decide +kernel) rfl rfl rfl (by decide +kernel)
set_option maxRecDepth 65536 in
theorem w_c6 : (Jvm.Cond.code ({ cls := "com/example/ferrule/ferrule/fusion/CellKernel$Batch", name := "rows", desc := "()[I" } : Jvm.MethodName) prog_5_method_13_code (1 : Nat) (Option.some (Jvm.ClassFile.FieldType.array Jvm.ClassFile.FieldType.int))).before args0 about1 = true := code_word (m := ⟨2, 4⟩) (meth := k2m4) (c := k2c4) (by decide +kernel) rfl rfl rfl (by decide +kernel)
set_option maxRecDepth 65536 in
theorem w_c7 : (Jvm.Cond.code ({ cls := "com/example/ferrule/ferrule/fusion/CellKernel$Batch", name := "list", desc := "()V" } : Jvm.MethodName) prog_5_method_15_code (4 : Nat) (Option.none : Option Jvm.ClassFile.FieldType)).before args0 about1 = true := code_word (m := ⟨2, 6⟩) (meth := k2m6) (c := k2c6) (by decide +kernel) rfl rfl rfl (by decide +kernel)
set_option maxRecDepth 65536 in
theorem w_c8 : (Jvm.Cond.code ({ cls := "com/example/ferrule/ferrule/fusion/CellKernel$Batch", name := "cols", desc := "()[I" } : Jvm.MethodName) prog_5_method_14_code (1 : Nat) (Option.some (Jvm.ClassFile.FieldType.array Jvm.ClassFile.FieldType.int))).before args0 about1 = true := code_word (m := ⟨2, 5⟩) (meth := k2m5) (c := k2c5) (by decide +kernel) rfl rfl rfl (by decide +kernel)
set_option maxRecDepth 65536 in
theorem w_c9 : (Jvm.Cond.code ({ cls := "com/example/ferrule/ferrule/fusion/BatchTakeAcrossRowsPinLaw", name := "rowOf", desc := "(IIII)I" } : Jvm.MethodName) method_3_code (4 : Nat) (Option.some Jvm.ClassFile.FieldType.int)).before args0 about1 = true := code_word (m := ⟨1, 2⟩) (meth := k1m2) (c := k1c2) (by decide +kernel) rfl rfl rfl (by decide +kernel)
set_option maxRecDepth 65536 in
theorem w_c10 : (Jvm.Cond.code ({ cls := "com/example/ferrule/ferrule/fusion/BatchTakeAcrossRowsPinLaw", name := "cellOk", desc := "(IIIIIII[I[I[I)Z" } : Jvm.MethodName) method_4_code (11 : Nat) (Option.some Jvm.ClassFile.FieldType.boolean)).before args0 about1 = true := code_word (m := ⟨1, 3⟩) (meth := k1m3) (c := k1c3) (by decide +kernel) rfl rfl rfl (by decide +kernel)
def codes1 : List Jvm.Cond := [Jvm.Cond.code x code maxLocals ret, Jvm.Cond.code ({ cls := "com/example/ferrule/ferrule/fusion/CellKernel$Batch", name := "<init>", desc := "(I)V" } : Jvm.MethodName) prog_5_method_2_code (2 : Nat) (Option.none : Option Jvm.ClassFile.FieldType), Jvm.Cond.code ({ cls := "java/lang/Object", name := "<init>", desc := "()V" } : Jvm.MethodName) object_method_1_code (1 : Nat) (Option.none : Option Jvm.ClassFile.FieldType), Jvm.Cond.code ({ cls := "com/example/ferrule/ferrule/fusion/CellKernel$Batch", name := "run", desc := "(JII)V" } : Jvm.MethodName) prog_5_method_5_code (5 : Nat) (Option.none : Option Jvm.ClassFile.FieldType), Jvm.Cond.code ({ cls := "com/example/ferrule/ferrule/fusion/CellKernel$Batch", name := "takeAcrossRows", desc := "(I[I[III)I" } : Jvm.MethodName) prog_5_method_17_code (9 : Nat) (Option.some Jvm.ClassFile.FieldType.int), Jvm.Cond.code ({ cls := "com/example/ferrule/ferrule/fusion/CellKernel$Batch", name := "isRun", desc := "()Z" } : Jvm.MethodName) prog_5_method_7_code (1 : Nat) (Option.some Jvm.ClassFile.FieldType.boolean), Jvm.Cond.code ({ cls := "com/example/ferrule/ferrule/fusion/CellKernel$Batch", name := "rows", desc := "()[I" } : Jvm.MethodName) prog_5_method_13_code (1 : Nat) (Option.some (Jvm.ClassFile.FieldType.array Jvm.ClassFile.FieldType.int)), Jvm.Cond.code ({ cls := "com/example/ferrule/ferrule/fusion/CellKernel$Batch", name := "list", desc := "()V" } : Jvm.MethodName) prog_5_method_15_code (4 : Nat) (Option.none : Option Jvm.ClassFile.FieldType), Jvm.Cond.code ({ cls := "com/example/ferrule/ferrule/fusion/CellKernel$Batch", name := "cols", desc := "()[I" } : Jvm.MethodName) prog_5_method_14_code (1 : Nat) (Option.some (Jvm.ClassFile.FieldType.array Jvm.ClassFile.FieldType.int)), Jvm.Cond.code ({ cls := "com/example/ferrule/ferrule/fusion/BatchTakeAcrossRowsPinLaw", name := "rowOf", desc := "(IIII)I" } : Jvm.MethodName) method_3_code (4 : Nat) (Option.some Jvm.ClassFile.FieldType.int), Jvm.Cond.code ({ cls := "com/example/ferrule/ferrule/fusion/BatchTakeAcrossRowsPinLaw", name := "cellOk", desc := "(IIIIIII[I[I[I)Z" } : Jvm.MethodName) method_4_code (11 : Nat) (Option.some Jvm.ClassFile.FieldType.boolean)]
set_option maxRecDepth 65536 in
theorem codes_eq : words1.filter isCode = codes1 := rfl
theorem w_codes : ∀ c ∈ words1.filter isCode, c.before args0 about1 = true := by
  rw [codes_eq]
  intro c hc
  simp only [codes1, List.mem_cons, List.not_mem_nil, or_false] at hc
  rcases hc with rfl | rfl | rfl | rfl | rfl | rfl | rfl | rfl | rfl | rfl | rfl
  · exact w_c0
  · exact w_c1
  · exact w_c2
  · exact w_c3
  · exact w_c4
  · exact w_c5
  · exact w_c6
  · exact w_c7
  · exact w_c8
  · exact w_c9
  · exact w_c10
set_option maxRecDepth 65536 in
theorem w_t1 : (words1.take 24).all (fun c => isCode c || c.before args0 about1) = true := by decide +kernel
set_option maxRecDepth 65536 in
theorem w_t2 : ((words1.drop 24).take 24).all (fun c => isCode c || c.before args0 about1) = true := by decide +kernel
set_option maxRecDepth 65536 in
theorem w_t3 : ((words1.drop 24).drop 24).all (fun c => isCode c || c.before args0 about1) = true := by decide +kernel
theorem w_tables : (allAtoms (Jvm.Cond.code x code maxLocals ret :: tables_1)).before args0 about1 = true := by
  rw [allAtoms_all]
  show words1.all (fun c => c.before args0 about1) = true
  refine all_split ?_ w_codes
  rw [← List.take_append_drop 24 words1, List.all_append, w_t1, ← List.take_append_drop 24 (words1.drop 24), List.all_append, w_t2, w_t3]
  rfl
set_option maxRecDepth 65536 in
theorem w_case : (Jvm.Cond.and given_1 narrow_1).before args0 about1 = true := by decide +kernel
theorem w_applies : (headSpec (Jvm.Cond.code x code maxLocals ret :: tables_1) room_1).applies x e0.platform about1 = true :=
  (Spec.applies_iff w_frames).mpr ⟨w_running, w_runnable, w_alone, w_named, w_hears, w_ripe, w_room, w_tables⟩
theorem atStart : AtStart classFile x code maxLocals ret World_1 tables_1 room_1 Calls_1 rest_1 Pre_1 launch0 p0 e0 about1 theMethod args0 below0 :=
  ⟨lists_1, trivial, launch0.admits_env _ _ _, launch0.least_env, fairChoices_fair.cas, fairChoices_fair.clock, w_frames, w_args, w_heap, w_applies, trivial, trivial, w_case⟩
end start1
theorem witness_1 : WitnessClaimed_1 := ⟨start1.p0, start1.e0, start1.about1, start1.theMethod, start1.args0, start1.below0, start1.atStart⟩
end Jvm.Pilot.@@N@@
