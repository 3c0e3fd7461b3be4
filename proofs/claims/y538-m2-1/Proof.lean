import JvmDerived
import JvmDerived.Pilot.@@N@@Statement
import JvmDerived.Pilot.@@N@@Code
set_option linter.unusedVariables false
set_option linter.unusedSimpArgs false
@@BLOCK:NumsL.lean.txt@@
namespace Jvm.Pilot.@@N@@
open Jvm Jvm.ClassFile Sem Op Lib Jvm.Free Jvm.Stand Jvm.LawKit Jvm.RoadKit Bundle Jvm.Pilot.@@N@@.Jvm.D
/-! 1. OWN: a walk in continuation style: 'own_Goes': from this frame the run comes back with an outcome of which Q holds -/
def own_Goes (p : Program) (e : Env) (below : List Frame) (T : State) (F : JFrame) (Q : Outcome → State → Prop) : Prop := ∃ s₂ o, Steps p.tables e below (T.setTop F) s₂ ∧ s₂.status = .running ∧ Ended s₂ below o ∧ Q o s₂
def own_Ret (s : State) (K : Option Value → Heap → List Loc → Prop) (rc rs : Nat) (o : Outcome) (U' : State) : Prop := ∃ v L, o = .returned v ∧ K v U'.heap L ∧ FrameEnd s o U' L rc rs
def own_upd (f : Nat → Value) (k : Nat) (v : Value) : Nat → Value := fun i => if i = k then v else f i
/-- an array of n places at a; place j holds f j -/
def own_Arr (Z : State) (h : Heap) (a : Addr) (ty : FieldType) (n : Nat) (f : Nat → Value) : Prop := ∃ c : Cell, Arr Z h a c ty ∧ c.slots.size = n ∧ n < 2 ^ 31 ∧ ∀ j, j < n → c.slots[j]? = some (f j)
section Own
variable {p : Program} {l : Launch} {e : Env} {R : Room} {s : State} {m : MethodId} {args : Array Value} {below : List Frame} {meth : Method} {c : Code} {T : State} {locs : List Loc} {cells slots : Nat} {Z : State} {a0 : Array Value} {h h' : Heap} {Q : Outcome → State → Prop} {Ls Ls' : Array Slot} {st : List Value} {pc pc' : Nat}
theorem own_step {T' : State} {F F' : JFrame} (k : ∀ t, Steps p.tables e below (T'.setTop F') t → Steps p.tables e below (T.setTop F) t) (q : own_Goes p e below T' F' Q) : own_Goes p e below T F Q := by
  obtain ⟨s2, o, h1, h2⟩ := q
  exact ⟨s2, o, k _ h1, h2⟩
theorem own_body {y : MethodName} {bytes : ByteArray} {maxL : Nat} {rt : Option FieldType} {ws : List Jvm.Cond} {rm : Room} {as : Array Value} {h0 : Heap} {K : Option Value → Heap → List Loc → Prop} (hpl : plainFor y = true)
    (body : ∀ (p : Program) (e : Env) (s : State) (m : MethodId) (below : List Frame) (meth : Method) (c : Code) (s₁ : State), p.tables.exec = Jvm.exec → c.code = bytes → c.maxLocals = maxL → s.vm.findClass y.cls = some m.cls → meth.name = y.name → meth.sig.returnType = rt → meth.locks = false → Z.Warmed39 s.vm →
      Stand p l e rm s m as below meth c s₁ [] 0 0 → s₁.heap = h0 → own_Goes p e below s₁ (entryFrame m as maxL) (own_Ret s K rm.cells rm.slots)) :
    MetFree l y (head1 (Jvm.Cond.code y bytes maxL rt :: ws) rm) (fun a U => a = as ∧ Z.Warmed39 U.vm ∧ U.heap = h0) (fun _ _ _ _ _ => True) (fun _ U o U' => ∃ v L, o = .returned v ∧ K v U'.heap L ∧ FrameEnd U o U' L rm.cells rm.slots) := by
  refine MetFree.of_bodySF hpl hisR ?_
  intro p e s m args below meth c s₁ Bd hml0 hP hK
  obtain ⟨rfl, hZ, hh⟩ := hP
  exact body p e s m below meth c s₁ Bd.exec Bd.bytes hml0 (findClass_of_methodNamed Bd.named) (name_of_methodNamed Bd.named Bd.method).1 Bd.returns Bd.notSynchronized hZ (Stand.of_body Bd) (by rw [← hh, Bd.state]; rfl)
theorem own_iload (X : Stand p l e R s m args below meth c T locs cells slots) (hx : p.tables.exec = Jvm.exec) {k : Nat} {v : Int32} (hp : pc + 2 = pc') (hd : decode c.code pc = .ok (.iload k, 2)) (hl : Ls[k]? = some (.val (.int v))) (k : own_Goes p e below T (mkF m pc' Ls (.int v :: st)) Q) : own_Goes p e below T (mkF m pc Ls st) Q := by
  subst hp; exact own_step (fun _ q => XS.iload X.here hx rfl hd hl q) k
theorem own_iloadN (X : Stand p l e R s m args below meth c T locs cells slots) (hx : p.tables.exec = Jvm.exec) {k : Fin 4} {v : Int32} (hp : pc + 1 = pc') (hd : decode c.code pc = .ok (.iload_n k, 1)) (hl : Ls[k.val]? = some (.val (.int v))) (k : own_Goes p e below T (mkF m pc' Ls (.int v :: st)) Q) : own_Goes p e below T (mkF m pc Ls st) Q := by
  subst hp; exact own_step (fun _ q => XS.iloadN X.here hx rfl hd hl q) k
theorem own_istore (X : Stand p l e R s m args below meth c T locs cells slots) (hx : p.tables.exec = Jvm.exec) {k : Nat} {v : Int32} (hp : pc + 2 = pc') (hd : decode c.code pc = .ok (.istore k, 2)) (hl : storeLocals Ls k (.int v) = some Ls') (k : own_Goes p e below T (mkF m pc' Ls' st) Q) : own_Goes p e below T (mkF m pc Ls (.int v :: st)) Q := by
  subst hp; exact own_step (fun _ q => XS.istore X.here hx rfl hd rfl hl q) k
theorem own_istoreN (X : Stand p l e R s m args below meth c T locs cells slots) (hx : p.tables.exec = Jvm.exec) {k : Fin 4} {v : Int32} (hp : pc + 1 = pc') (hd : decode c.code pc = .ok (.istore_n k, 1)) (hl : storeLocals Ls k.val (.int v) = some Ls') (k : own_Goes p e below T (mkF m pc' Ls' st) Q) : own_Goes p e below T (mkF m pc Ls (.int v :: st)) Q := by
  subst hp; exact own_step (fun _ q => XS.istoreN X.here hx rfl hd rfl hl q) k
theorem own_lload (X : Stand p l e R s m args below meth c T locs cells slots) (hx : p.tables.exec = Jvm.exec) {k : Nat} {v : Int64} (hp : pc + 2 = pc') (hd : decode c.code pc = .ok (.lload k, 2)) (hl : Ls[k]? = some (.val (.long v))) (k : own_Goes p e below T (mkF m pc' Ls (.long v :: st)) Q) : own_Goes p e below T (mkF m pc Ls st) Q := by
  subst hp; exact own_step (fun _ q => XT.lload X.here hx rfl hd hl q) k
theorem own_lloadN (X : Stand p l e R s m args below meth c T locs cells slots) (hx : p.tables.exec = Jvm.exec) {k : Fin 4} {v : Int64} (hp : pc + 1 = pc') (hd : decode c.code pc = .ok (.lload_n k, 1)) (hl : Ls[k.val]? = some (.val (.long v))) (k : own_Goes p e below T (mkF m pc' Ls (.long v :: st)) Q) : own_Goes p e below T (mkF m pc Ls st) Q := by
  subst hp; exact own_step (fun _ q => XT.lloadN X.here hx rfl hd hl q) k
theorem own_lstore (X : Stand p l e R s m args below meth c T locs cells slots) (hx : p.tables.exec = Jvm.exec) {k : Nat} {v : Int64} (hp : pc + 2 = pc') (hd : decode c.code pc = .ok (.lstore k, 2)) (hl : storeLocals Ls k (.long v) = some Ls') (k : own_Goes p e below T (mkF m pc' Ls' st) Q) : own_Goes p e below T (mkF m pc Ls (.long v :: st)) Q := by
  subst hp; exact own_step (fun _ q => XT.lstore X.here hx rfl hd rfl hl q) k
theorem own_lstoreN (X : Stand p l e R s m args below meth c T locs cells slots) (hx : p.tables.exec = Jvm.exec) {k : Fin 4} {v : Int64} (hp : pc + 1 = pc') (hd : decode c.code pc = .ok (.lstore_n k, 1)) (hl : storeLocals Ls k.val (.long v) = some Ls') (k : own_Goes p e below T (mkF m pc' Ls' st) Q) : own_Goes p e below T (mkF m pc Ls (.long v :: st)) Q := by
  subst hp; exact own_step (fun _ q => XT.lstoreN X.here hx rfl hd rfl hl q) k
theorem own_aload (X : Stand p l e R s m args below meth c T locs cells slots) (hx : p.tables.exec = Jvm.exec) {k : Nat} {v : Value} (hp : pc + 2 = pc') (hd : decode c.code pc = .ok (.aload k, 2)) (hl : Ls[k]? = some (.val v)) (hv : v.isRef = true) (k : own_Goes p e below T (mkF m pc' Ls (v :: st)) Q) : own_Goes p e below T (mkF m pc Ls st) Q := by
  subst hp; exact own_step (fun _ q => XS.aload X.here hx rfl hd hl hv q) k
theorem own_aloadN (X : Stand p l e R s m args below meth c T locs cells slots) (hx : p.tables.exec = Jvm.exec) {k : Fin 4} {v : Value} (hp : pc + 1 = pc') (hd : decode c.code pc = .ok (.aload_n k, 1)) (hl : Ls[k.val]? = some (.val v)) (hv : v.isRef = true) (k : own_Goes p e below T (mkF m pc' Ls (v :: st)) Q) : own_Goes p e below T (mkF m pc Ls st) Q := by
  subst hp; exact own_step (fun _ q => XS.aloadN X.here hx rfl hd hl hv q) k
theorem own_astore (X : Stand p l e R s m args below meth c T locs cells slots) (hx : p.tables.exec = Jvm.exec) {k : Nat} {v : Value} (hp : pc + 2 = pc') (hd : decode c.code pc = .ok (.astore k, 2)) (hv : v.isRef = true) (hl : storeLocals Ls k v = some Ls') (k : own_Goes p e below T (mkF m pc' Ls' st) Q) : own_Goes p e below T (mkF m pc Ls (v :: st)) Q := by
  subst hp; exact own_step (fun _ q => XS.astore X.here hx rfl hd rfl hv hl q) k
theorem own_astoreN (X : Stand p l e R s m args below meth c T locs cells slots) (hx : p.tables.exec = Jvm.exec) {k : Fin 4} {v : Value} (hp : pc + 1 = pc') (hd : decode c.code pc = .ok (.astore_n k, 1)) (hv : v.isRef = true) (hl : storeLocals Ls k.val v = some Ls') (k : own_Goes p e below T (mkF m pc' Ls' st) Q) : own_Goes p e below T (mkF m pc Ls (v :: st)) Q := by
  subst hp; exact own_step (fun _ q => XS.astoreN X.here hx rfl hd rfl hv hl q) k
theorem own_iconst (X : Stand p l e R s m args below meth c T locs cells slots) (hx : p.tables.exec = Jvm.exec) {i : Int} {v : Int32} (hp : pc + 1 = pc') (hd : decode c.code pc = .ok (.iconst i, 1)) (hv : Int32.ofInt i = v) (k : own_Goes p e below T (mkF m pc' Ls (.int v :: st)) Q) : own_Goes p e below T (mkF m pc Ls st) Q := by
  subst hp; subst hv; exact own_step (fun _ q => XS.iconst X.here hx rfl hd  q) k
theorem own_bipush (X : Stand p l e R s m args below meth c T locs cells slots) (hx : p.tables.exec = Jvm.exec) {i : Int} {v : Int32} (hp : pc + 2 = pc') (hd : decode c.code pc = .ok (.bipush i, 2)) (hv : (Int8.ofInt i).toInt32 = v) (k : own_Goes p e below T (mkF m pc' Ls (.int v :: st)) Q) : own_Goes p e below T (mkF m pc Ls st) Q := by
  subst hp; subst hv; exact own_step (fun _ q => XS.bipush X.here hx rfl hd  q) k
theorem own_sipush (X : Stand p l e R s m args below meth c T locs cells slots) (hx : p.tables.exec = Jvm.exec) {i : Int} {v : Int32} (hp : pc + 3 = pc') (hd : decode c.code pc = .ok (.sipush i, 3)) (hv : (Int16.ofInt i).toInt32 = v) (k : own_Goes p e below T (mkF m pc' Ls (.int v :: st)) Q) : own_Goes p e below T (mkF m pc Ls st) Q := by
  subst hp; subst hv; exact own_step (fun _ q => XS.sipush X.here hx rfl hd  q) k
theorem own_lconst (X : Stand p l e R s m args below meth c T locs cells slots) (hx : p.tables.exec = Jvm.exec) {i : Fin 2} {v : Int64} (hp : pc + 1 = pc') (hd : decode c.code pc = .ok (.lconst i, 1)) (hv : Int64.ofNat i = v) (k : own_Goes p e below T (mkF m pc' Ls (.long v :: st)) Q) : own_Goes p e below T (mkF m pc Ls st) Q := by
  subst hp; subst hv; exact own_step (fun _ q => XT.lconst X.here hx rfl hd  q) k
theorem own_anull (X : Stand p l e R s m args below meth c T locs cells slots) (hx : p.tables.exec = Jvm.exec)  (hp : pc + 1 = pc') (hd : decode c.code pc = .ok (.aconst_null, 1))  (k : own_Goes p e below T (mkF m pc' Ls (.null :: st)) Q) : own_Goes p e below T (mkF m pc Ls st) Q := by
  subst hp; exact own_step (fun _ q => XS.aconstNull X.here hx rfl hd  q) k
theorem own_iadd (X : Stand p l e R s m args below meth c T locs cells slots) (hx : p.tables.exec = Jvm.exec) {x y v : Int32} (hp : pc + 1 = pc') (hd : decode c.code pc = .ok (.iadd, 1)) (hv : x + y = v) (k : own_Goes p e below T (mkF m pc' Ls (.int v :: st)) Q) : own_Goes p e below T (mkF m pc Ls (.int y :: .int x :: st)) Q := by
  subst hp; subst hv; exact own_step (fun _ q => XS.iadd X.here hx rfl hd rfl q) k
theorem own_isub (X : Stand p l e R s m args below meth c T locs cells slots) (hx : p.tables.exec = Jvm.exec) {x y v : Int32} (hp : pc + 1 = pc') (hd : decode c.code pc = .ok (.isub, 1)) (hv : x - y = v) (k : own_Goes p e below T (mkF m pc' Ls (.int v :: st)) Q) : own_Goes p e below T (mkF m pc Ls (.int y :: .int x :: st)) Q := by
  subst hp; subst hv; exact own_step (fun _ q => XS.isub X.here hx rfl hd rfl q) k
theorem own_imul (X : Stand p l e R s m args below meth c T locs cells slots) (hx : p.tables.exec = Jvm.exec) {x y v : Int32} (hp : pc + 1 = pc') (hd : decode c.code pc = .ok (.imul, 1)) (hv : x * y = v) (k : own_Goes p e below T (mkF m pc' Ls (.int v :: st)) Q) : own_Goes p e below T (mkF m pc Ls (.int y :: .int x :: st)) Q := by
  subst hp; subst hv; exact own_step (fun _ q => XS.imul X.here hx rfl hd rfl q) k
theorem own_iand (X : Stand p l e R s m args below meth c T locs cells slots) (hx : p.tables.exec = Jvm.exec) {x y v : Int32} (hp : pc + 1 = pc') (hd : decode c.code pc = .ok (.iand, 1)) (hv : x &&& y = v) (k : own_Goes p e below T (mkF m pc' Ls (.int v :: st)) Q) : own_Goes p e below T (mkF m pc Ls (.int y :: .int x :: st)) Q := by
  subst hp; subst hv; exact own_step (fun _ q => XS.iand X.here hx rfl hd rfl q) k
theorem own_ior (X : Stand p l e R s m args below meth c T locs cells slots) (hx : p.tables.exec = Jvm.exec) {x y v : Int32} (hp : pc + 1 = pc') (hd : decode c.code pc = .ok (.ior, 1)) (hv : x ||| y = v) (k : own_Goes p e below T (mkF m pc' Ls (.int v :: st)) Q) : own_Goes p e below T (mkF m pc Ls (.int y :: .int x :: st)) Q := by
  subst hp; subst hv; exact own_step (fun _ q => XT.ior X.here hx rfl hd rfl q) k
theorem own_ixor (X : Stand p l e R s m args below meth c T locs cells slots) (hx : p.tables.exec = Jvm.exec) {x y v : Int32} (hp : pc + 1 = pc') (hd : decode c.code pc = .ok (.ixor, 1)) (hv : x ^^^ y = v) (k : own_Goes p e below T (mkF m pc' Ls (.int v :: st)) Q) : own_Goes p e below T (mkF m pc Ls (.int y :: .int x :: st)) Q := by
  subst hp; subst hv; exact own_step (fun _ q => XT.ixor X.here hx rfl hd rfl q) k
theorem own_ishl (X : Stand p l e R s m args below meth c T locs cells slots) (hx : p.tables.exec = Jvm.exec) {x y v : Int32} (hp : pc + 1 = pc') (hd : decode c.code pc = .ok (.ishl, 1)) (hv : x <<< (y &&& 31) = v) (k : own_Goes p e below T (mkF m pc' Ls (.int v :: st)) Q) : own_Goes p e below T (mkF m pc Ls (.int y :: .int x :: st)) Q := by
  subst hp; subst hv; exact own_step (fun _ q => XT.ishl X.here hx rfl hd rfl q) k
theorem own_ishr (X : Stand p l e R s m args below meth c T locs cells slots) (hx : p.tables.exec = Jvm.exec) {x y v : Int32} (hp : pc + 1 = pc') (hd : decode c.code pc = .ok (.ishr, 1)) (hv : x >>> (y &&& 31) = v) (k : own_Goes p e below T (mkF m pc' Ls (.int v :: st)) Q) : own_Goes p e below T (mkF m pc Ls (.int y :: .int x :: st)) Q := by
  subst hp; subst hv; exact own_step (fun _ q => XT.ishr X.here hx rfl hd rfl q) k
theorem own_iushr (X : Stand p l e R s m args below meth c T locs cells slots) (hx : p.tables.exec = Jvm.exec) {x y v : Int32} (hp : pc + 1 = pc') (hd : decode c.code pc = .ok (.iushr, 1)) (hv : XT.ushr x y = v) (k : own_Goes p e below T (mkF m pc' Ls (.int v :: st)) Q) : own_Goes p e below T (mkF m pc Ls (.int y :: .int x :: st)) Q := by
  subst hp; subst hv; exact own_step (fun _ q => XT.iushr X.here hx rfl hd rfl q) k
theorem own_idiv (X : Stand p l e R s m args below meth c T locs cells slots) (hx : p.tables.exec = Jvm.exec) {x y v : Int32} (hp : pc + 1 = pc') (hd : decode c.code pc = .ok (.idiv, 1)) (hy : y ≠ 0) (hv : x / y = v) (k : own_Goes p e below T (mkF m pc' Ls (.int v :: st)) Q) : own_Goes p e below T (mkF m pc Ls (.int y :: .int x :: st)) Q := by
  subst hp; subst hv; exact own_step (fun _ q => XS.idiv X.here hx rfl hd rfl hy q) k
theorem own_irem (X : Stand p l e R s m args below meth c T locs cells slots) (hx : p.tables.exec = Jvm.exec) {x y v : Int32} (hp : pc + 1 = pc') (hd : decode c.code pc = .ok (.irem, 1)) (hy : y ≠ 0) (hv : x % y = v) (k : own_Goes p e below T (mkF m pc' Ls (.int v :: st)) Q) : own_Goes p e below T (mkF m pc Ls (.int y :: .int x :: st)) Q := by
  subst hp; subst hv; exact own_step (fun _ q => iremM X hx rfl hd rfl hy q) k
theorem own_ladd (X : Stand p l e R s m args below meth c T locs cells slots) (hx : p.tables.exec = Jvm.exec) {x y v : Int64} (hp : pc + 1 = pc') (hd : decode c.code pc = .ok (.ladd, 1)) (hv : x + y = v) (k : own_Goes p e below T (mkF m pc' Ls (.long v :: st)) Q) : own_Goes p e below T (mkF m pc Ls (.long y :: .long x :: st)) Q := by
  subst hp; subst hv; exact own_step (fun _ q => XT.ladd X.here hx rfl hd rfl q) k
theorem own_lsub (X : Stand p l e R s m args below meth c T locs cells slots) (hx : p.tables.exec = Jvm.exec) {x y v : Int64} (hp : pc + 1 = pc') (hd : decode c.code pc = .ok (.lsub, 1)) (hv : x - y = v) (k : own_Goes p e below T (mkF m pc' Ls (.long v :: st)) Q) : own_Goes p e below T (mkF m pc Ls (.long y :: .long x :: st)) Q := by
  subst hp; subst hv; exact own_step (fun _ q => XT.lsub X.here hx rfl hd rfl q) k
theorem own_lmul (X : Stand p l e R s m args below meth c T locs cells slots) (hx : p.tables.exec = Jvm.exec) {x y v : Int64} (hp : pc + 1 = pc') (hd : decode c.code pc = .ok (.lmul, 1)) (hv : x * y = v) (k : own_Goes p e below T (mkF m pc' Ls (.long v :: st)) Q) : own_Goes p e below T (mkF m pc Ls (.long y :: .long x :: st)) Q := by
  subst hp; subst hv; exact own_step (fun _ q => XT.lmul X.here hx rfl hd rfl q) k
theorem own_land (X : Stand p l e R s m args below meth c T locs cells slots) (hx : p.tables.exec = Jvm.exec) {x y v : Int64} (hp : pc + 1 = pc') (hd : decode c.code pc = .ok (.land, 1)) (hv : x &&& y = v) (k : own_Goes p e below T (mkF m pc' Ls (.long v :: st)) Q) : own_Goes p e below T (mkF m pc Ls (.long y :: .long x :: st)) Q := by
  subst hp; subst hv; exact own_step (fun _ q => XT.land X.here hx rfl hd rfl q) k
theorem own_lor (X : Stand p l e R s m args below meth c T locs cells slots) (hx : p.tables.exec = Jvm.exec) {x y v : Int64} (hp : pc + 1 = pc') (hd : decode c.code pc = .ok (.lor, 1)) (hv : x ||| y = v) (k : own_Goes p e below T (mkF m pc' Ls (.long v :: st)) Q) : own_Goes p e below T (mkF m pc Ls (.long y :: .long x :: st)) Q := by
  subst hp; subst hv; exact own_step (fun _ q => XT.lor X.here hx rfl hd rfl q) k
theorem own_lxor (X : Stand p l e R s m args below meth c T locs cells slots) (hx : p.tables.exec = Jvm.exec) {x y v : Int64} (hp : pc + 1 = pc') (hd : decode c.code pc = .ok (.lxor, 1)) (hv : x ^^^ y = v) (k : own_Goes p e below T (mkF m pc' Ls (.long v :: st)) Q) : own_Goes p e below T (mkF m pc Ls (.long y :: .long x :: st)) Q := by
  subst hp; subst hv; exact own_step (fun _ q => XT.lxor X.here hx rfl hd rfl q) k
theorem own_ldiv (X : Stand p l e R s m args below meth c T locs cells slots) (hx : p.tables.exec = Jvm.exec) {x y v : Int64} (hp : pc + 1 = pc') (hd : decode c.code pc = .ok (.ldiv, 1)) (hy : y ≠ 0) (hv : x / y = v) (k : own_Goes p e below T (mkF m pc' Ls (.long v :: st)) Q) : own_Goes p e below T (mkF m pc Ls (.long y :: .long x :: st)) Q := by
  subst hp; subst hv; exact own_step (fun _ q => XT.ldiv X.here hx rfl hd rfl hy q) k
theorem own_ineg (X : Stand p l e R s m args below meth c T locs cells slots) (hx : p.tables.exec = Jvm.exec) {x v : Int32} (hp : pc + 1 = pc') (hd : decode c.code pc = .ok (.ineg, 1)) (hv : -x = v) (k : own_Goes p e below T (mkF m pc' Ls (.int v :: st)) Q) : own_Goes p e below T (mkF m pc Ls (.int x :: st)) Q := by
  subst hp; subst hv; exact own_step (fun _ q => XS.ineg X.here hx rfl hd rfl q) k
theorem own_lneg (X : Stand p l e R s m args below meth c T locs cells slots) (hx : p.tables.exec = Jvm.exec) {x v : Int64} (hp : pc + 1 = pc') (hd : decode c.code pc = .ok (.lneg, 1)) (hv : -x = v) (k : own_Goes p e below T (mkF m pc' Ls (.long v :: st)) Q) : own_Goes p e below T (mkF m pc Ls (.long x :: st)) Q := by
  subst hp; subst hv; exact own_step (fun _ q => XT.lneg X.here hx rfl hd rfl q) k
theorem own_i2l (X : Stand p l e R s m args below meth c T locs cells slots) (hx : p.tables.exec = Jvm.exec) {x : Int32} {v : Int64} (hp : pc + 1 = pc') (hd : decode c.code pc = .ok (.i2l, 1)) (hv : x.toInt64 = v) (k : own_Goes p e below T (mkF m pc' Ls (.long v :: st)) Q) : own_Goes p e below T (mkF m pc Ls (.int x :: st)) Q := by
  subst hp; subst hv; exact own_step (fun _ q => XT.i2l X.here hx rfl hd rfl q) k
theorem own_l2i (X : Stand p l e R s m args below meth c T locs cells slots) (hx : p.tables.exec = Jvm.exec) {x : Int64} {v : Int32} (hp : pc + 1 = pc') (hd : decode c.code pc = .ok (.l2i, 1)) (hv : x.toInt32 = v) (k : own_Goes p e below T (mkF m pc' Ls (.int v :: st)) Q) : own_Goes p e below T (mkF m pc Ls (.long x :: st)) Q := by
  subst hp; subst hv; exact own_step (fun _ q => XT.l2i X.here hx rfl hd rfl q) k
theorem own_i2b (X : Stand p l e R s m args below meth c T locs cells slots) (hx : p.tables.exec = Jvm.exec) {x v : Int32} (hp : pc + 1 = pc') (hd : decode c.code pc = .ok (.i2b, 1)) (hv : x.toInt8.toInt32 = v) (k : own_Goes p e below T (mkF m pc' Ls (.int v :: st)) Q) : own_Goes p e below T (mkF m pc Ls (.int x :: st)) Q := by
  subst hp; subst hv; exact own_step (fun _ q => XT.i2b X.here hx rfl hd rfl q) k
theorem own_i2c (X : Stand p l e R s m args below meth c T locs cells slots) (hx : p.tables.exec = Jvm.exec) {x v : Int32} (hp : pc + 1 = pc') (hd : decode c.code pc = .ok (.i2c, 1)) (hv : x.toUInt32.toUInt16.toUInt32.toInt32 = v) (k : own_Goes p e below T (mkF m pc' Ls (.int v :: st)) Q) : own_Goes p e below T (mkF m pc Ls (.int x :: st)) Q := by
  subst hp; subst hv; exact own_step (fun _ q => XT.i2c X.here hx rfl hd rfl q) k
theorem own_i2s (X : Stand p l e R s m args below meth c T locs cells slots) (hx : p.tables.exec = Jvm.exec) {x v : Int32} (hp : pc + 1 = pc') (hd : decode c.code pc = .ok (.i2s, 1)) (hv : x.toInt16.toInt32 = v) (k : own_Goes p e below T (mkF m pc' Ls (.int v :: st)) Q) : own_Goes p e below T (mkF m pc Ls (.int x :: st)) Q := by
  subst hp; subst hv; exact own_step (fun _ q => XT.i2s X.here hx rfl hd rfl q) k
theorem own_lcmp (X : Stand p l e R s m args below meth c T locs cells slots) (hx : p.tables.exec = Jvm.exec) {x y : Int64} (hp : pc + 1 = pc') (hd : decode c.code pc = .ok (.lcmp, 1))  (k : own_Goes p e below T (mkF m pc' Ls (.int (XT.cmpL x y) :: st)) Q) : own_Goes p e below T (mkF m pc Ls (.long y :: .long x :: st)) Q := by
  subst hp; exact own_step (fun _ q => XT.lcmp X.here hx rfl hd rfl q) k
theorem own_iinc (X : Stand p l e R s m args below meth c T locs cells slots) (hx : p.tables.exec = Jvm.exec) {n : Nat} {i : Int} {x v : Int32} (hp : pc + 3 = pc') (hd : decode c.code pc = .ok (.iinc n i, 3)) (hl : Ls[n]? = some (.val (.int x))) (hv : x + Int32.ofInt i = v) (hl' : storeLocals Ls n (.int v) = some Ls') (k : own_Goes p e below T (mkF m pc' Ls' st) Q) : own_Goes p e below T (mkF m pc Ls st) Q := by
  subst hp; subst hv; exact own_step (fun _ q => XS.iinc X.here hx rfl hd hl hl' q) k
theorem own_dup (X : Stand p l e R s m args below meth c T locs cells slots) (hx : p.tables.exec = Jvm.exec) {x : Value} (hp : pc + 1 = pc') (hd : decode c.code pc = .ok (.dup, 1)) (hc : x.category = 1) (k : own_Goes p e below T (mkF m pc' Ls (x :: x :: st)) Q) : own_Goes p e below T (mkF m pc Ls (x :: st)) Q := by
  subst hp; exact own_step (fun _ q => XS.dup X.here hx rfl hd rfl hc q) k
theorem own_pop (X : Stand p l e R s m args below meth c T locs cells slots) (hx : p.tables.exec = Jvm.exec) {x : Value} (hp : pc + 1 = pc') (hd : decode c.code pc = .ok (.pop, 1)) (hc : x.category = 1) (k : own_Goes p e below T (mkF m pc' Ls st) Q) : own_Goes p e below T (mkF m pc Ls (x :: st)) Q := by
  subst hp; exact own_step (fun _ q => XT.pop X.here hx rfl hd rfl hc q) k
theorem own_goto (X : Stand p l e R s m args below meth c T locs cells slots) (hx : p.tables.exec = Jvm.exec) {o : Int} (hd : decode c.code pc = .ok (.goto o, 3)) (ho : 0 ≤ (pc : Int) + o) (hp : ((pc : Int) + o).toNat = pc') (k : own_Goes p e below T (mkF m pc' Ls st) Q) : own_Goes p e below T (mkF m pc Ls st) Q := own_step (fun _ q => XS.goto X.here hx rfl (pc0 := pc) (pc' := pc') rfl hd ho hp q) k
theorem own_ifT (X : Stand p l e R s m args below meth c T locs cells slots) (hx : p.tables.exec = Jvm.exec) {cd : ClassFile.Cond} {x : Int32} {o : Int} (hd : decode c.code pc = .ok (.ifCond cd o, 3)) (hc : ifCond.holds cd x = true) (ho : 0 ≤ (pc : Int) + o) (hp : ((pc : Int) + o).toNat = pc') (k : own_Goes p e below T (mkF m pc' Ls st) Q) : own_Goes p e below T (mkF m pc Ls (.int x :: st)) Q := own_step (fun _ q => XS.ifYes X.here hx rfl (pc0 := pc) (pc' := pc') rfl hd rfl hc ho hp q) k
theorem own_ifF (X : Stand p l e R s m args below meth c T locs cells slots) (hx : p.tables.exec = Jvm.exec) {cd : ClassFile.Cond} {x : Int32} {o : Int} (hp : pc + 3 = pc') (hd : decode c.code pc = .ok (.ifCond cd o, 3)) (hc : ifCond.holds cd x = false) (k : own_Goes p e below T (mkF m pc' Ls st) Q) : own_Goes p e below T (mkF m pc Ls (.int x :: st)) Q := by
  subst hp; exact own_step (fun _ q => XS.ifNo X.here hx rfl hd rfl hc q) k
theorem own_icmpT (X : Stand p l e R s m args below meth c T locs cells slots) (hx : p.tables.exec = Jvm.exec) {cd : ClassFile.Cond} {x y : Int32} {o : Int} (hd : decode c.code pc = .ok (.if_icmp cd o, 3)) (hc : if_icmp.holds cd x y = true) (ho : 0 ≤ (pc : Int) + o) (hp : ((pc : Int) + o).toNat = pc') (k : own_Goes p e below T (mkF m pc' Ls st) Q) : own_Goes p e below T (mkF m pc Ls (.int y :: .int x :: st)) Q := own_step (fun _ q => XS.icmpYes X.here hx rfl (pc0 := pc) (pc' := pc') rfl hd rfl hc ho hp q) k
theorem own_icmpF (X : Stand p l e R s m args below meth c T locs cells slots) (hx : p.tables.exec = Jvm.exec) {cd : ClassFile.Cond} {x y : Int32} {o : Int} (hp : pc + 3 = pc') (hd : decode c.code pc = .ok (.if_icmp cd o, 3)) (hc : if_icmp.holds cd x y = false) (k : own_Goes p e below T (mkF m pc' Ls st) Q) : own_Goes p e below T (mkF m pc Ls (.int y :: .int x :: st)) Q := by
  subst hp; exact own_step (fun _ q => XS.icmpNo X.here hx rfl hd rfl hc q) k
theorem own_acmpT (X : Stand p l e R s m args below meth c T locs cells slots) (hx : p.tables.exec = Jvm.exec) {cd : ClassFile.ACond} {x y : Value} {o : Int} (hd : decode c.code pc = .ok (.if_acmp cd o, 3)) (h1 : x.isRef = true) (h2 : y.isRef = true) (hc : XT.acmp cd x y = true) (ho : 0 ≤ (pc : Int) + o) (hp : ((pc : Int) + o).toNat = pc') (k : own_Goes p e below T (mkF m pc' Ls st) Q) : own_Goes p e below T (mkF m pc Ls (y :: x :: st)) Q := own_step (fun _ q => XT.acmpYes X.here hx rfl (pc0 := pc) (pc' := pc') rfl hd rfl h1 h2 hc ho hp q) k
theorem own_acmpF (X : Stand p l e R s m args below meth c T locs cells slots) (hx : p.tables.exec = Jvm.exec) {cd : ClassFile.ACond} {x y : Value} {o : Int} (hp : pc + 3 = pc') (hd : decode c.code pc = .ok (.if_acmp cd o, 3)) (h1 : x.isRef = true) (h2 : y.isRef = true) (hc : XT.acmp cd x y = false) (k : own_Goes p e below T (mkF m pc' Ls st) Q) : own_Goes p e below T (mkF m pc Ls (y :: x :: st)) Q := by
  subst hp; exact own_step (fun _ q => XT.acmpNo X.here hx rfl hd rfl h1 h2 hc q) k
theorem own_ldc (X : Stand p l e R s m args below meth c T locs cells slots) (hx : p.tables.exec = Jvm.exec) (hZ : Z.Warmed39 s.vm) {own : String} {index : Nat} {v : Int32} (hown : s.vm.findClass own = some m.cls) (w : (Jvm.Cond.constant own index v).before a0 Z = true) (hp : pc + 2 = pc') (hd : decode c.code pc = .ok (.ldc index, 2)) (k : own_Goes p e below T (mkF m pc' Ls (.int v :: st)) Q) : own_Goes p e below T (mkF m pc Ls st) Q := by
  subst hp; exact own_step (fun _ q => X.ldcI hx hown (mvT hZ w) rfl hd q) k
theorem own_ldc2_w (X : Stand p l e R s m args below meth c T locs cells slots) (hx : p.tables.exec = Jvm.exec) (hZ : Z.Warmed39 s.vm) {own : String} {index : Nat} {v : Int64} (hown : s.vm.findClass own = some m.cls) (w : (Jvm.Cond.constantLong own index v).before a0 Z = true) (hp : pc + 3 = pc') (hd : decode c.code pc = .ok (.ldc2_w index, 3)) (k : own_Goes p e below T (mkF m pc' Ls (.long v :: st)) Q) : own_Goes p e below T (mkF m pc Ls st) Q := by
  subst hp; exact own_step (fun _ q => X.ldc2J hx hown (mvT hZ w) rfl hd q) k
theorem own_retW (X : Stand p l e R s m args below meth c T locs cells slots) (hx : p.tables.exec = Jvm.exec) (hlk : meth.locks = false) {w : Option Value} (hv : meth.sig.returnType = none → w = none) {F : JFrame} (run : ∀ fs, (∀ (f : JFrame) (acts : List Action), f.method = m → f.locked = none → f.entered = [] → (doReturn e (T.setTop f) acts w).1 = T.setFrames fs) → Steps p.tables e below (T.setTop F) (T.setFrames fs)) {K : Option Value → Heap → List Loc → Prop} {rc rs : Nat} (hc : cells ≤ rc) (hs : slots ≤ rs) (hQ : K w T.heap locs) : own_Goes p e below T F (own_Ret s K rc rs) := by
  obtain ⟨fs, hr, hrun, hended, hW, hsame⟩ := X.leave (v := w) hv hlk
  exact ⟨_, _, run fs hr, hrun, hended, w, locs, rfl, hQ, ⟨_, rfl⟩, hW, hsame.mono hc hs⟩
theorem own_iret (X : Stand p l e R s m args below meth c T locs cells slots) (hx : p.tables.exec = Jvm.exec) (hlk : meth.locks = false) {z : Int32} (hret : meth.sig.returnType = some .int) (hd : decode c.code pc = .ok (.ireturn, 1)) {K : Option Value → Heap → List Loc → Prop} {rc rs : Nat} (hc : cells ≤ rc) (hs : slots ≤ rs) (hQ : K (some (.int z)) T.heap locs) : own_Goes p e below T (mkF m pc Ls (.int z :: st)) (own_Ret s K rc rs) :=
  own_retW X hx hlk (fun q => by rw [hret] at q; cases q) (fun fs hr => retOut X hx hret rfl (Or.inl ⟨rfl, Or.inl rfl, z, rfl⟩) hd hr) hc hs hQ
theorem own_zret (X : Stand p l e R s m args below meth c T locs cells slots) (hx : p.tables.exec = Jvm.exec) (hlk : meth.locks = false) {z : Int32} {t : FieldType} (hret : meth.sig.returnType = some t) (ht : t = .boolean ∨ t = .byte ∨ t = .char ∨ t = .short) (hd : decode c.code pc = .ok (.ireturn, 1)) {K : Option Value → Heap → List Loc → Prop} {rc rs : Nat} (hc : cells ≤ rc) (hs : slots ≤ rs) (hQ : K (some (.int (nar t z))) T.heap locs) : own_Goes p e below T (mkF m pc Ls (.int z :: st)) (own_Ret s K rc rs) :=
  own_retW X hx hlk (fun q => by rw [hret] at q; cases q) (fun fs hr => retN X hx hret ht hd hr) hc hs hQ
theorem own_lret (X : Stand p l e R s m args below meth c T locs cells slots) (hx : p.tables.exec = Jvm.exec) (hlk : meth.locks = false) {z : Int64} (hret : meth.sig.returnType = some .long) (hd : decode c.code pc = .ok (.lreturn, 1)) {K : Option Value → Heap → List Loc → Prop} {rc rs : Nat} (hc : cells ≤ rc) (hs : slots ≤ rs) (hQ : K (some (.long z)) T.heap locs) : own_Goes p e below T (mkF m pc Ls (.long z :: st)) (own_Ret s K rc rs) :=
  own_retW X hx hlk (fun q => by rw [hret] at q; cases q) (fun fs hr => retOut X hx hret rfl (Or.inr (Or.inl ⟨rfl, rfl, z, rfl⟩)) hd hr) hc hs hQ
theorem own_aret (X : Stand p l e R s m args below meth c T locs cells slots) (hx : p.tables.exec = Jvm.exec) (hlk : meth.locks = false) {z : Value} {t : FieldType} (hret : meth.sig.returnType = some t) (ht : t.isReference = true) (hz : z.isRef = true) (hd : decode c.code pc = .ok (.areturn, 1)) {K : Option Value → Heap → List Loc → Prop} {rc rs : Nat} (hc : cells ≤ rc) (hs : slots ≤ rs) (hQ : K (some z) T.heap locs) : own_Goes p e below T (mkF m pc Ls (z :: st)) (own_Ret s K rc rs) :=
  own_retW X hx hlk (fun q => by rw [hret] at q; cases q) (fun fs hr => retOut X hx hret (by cases t <;> simp [FieldType.isReference] at ht <;> cases z <;> simp [Value.isRef] at hz <;> rfl) (Or.inr (Or.inr (Or.inr (Or.inr ⟨rfl, ht, hz⟩)))) hd hr) hc hs hQ
theorem own_ret (X : Stand p l e R s m args below meth c T locs cells slots) (hx : p.tables.exec = Jvm.exec) (hlk : meth.locks = false) (hret : meth.sig.returnType = none) (hd : decode c.code pc = .ok (.return_, 1)) {K : Option Value → Heap → List Loc → Prop} {rc rs : Nat} (hc : cells ≤ rc) (hs : slots ≤ rs) (hQ : K none T.heap locs) : own_Goes p e below T (mkF m pc Ls []) (own_Ret s K rc rs) :=
  own_retW X hx hlk (fun _ => rfl) (fun fs hr => X.returnOut hx hret hd hr) hc hs hQ
theorem own_dload (X : Stand p l e R s m args below meth c T locs cells slots) (hx : p.tables.exec = Jvm.exec) {k : Nat} {v : UInt64} (hp : pc + 2 = pc') (hd : decode c.code pc = .ok (.dload k, 2)) (hl : Ls[k]? = some (.val (.double v))) (k : own_Goes p e below T (mkF m pc' Ls (.double v :: st)) Q) : own_Goes p e below T (mkF m pc Ls st) Q := by
  subst hp; exact own_step (fun _ q => XS.dload X.here hx rfl hd hl q) k
theorem own_dloadN (X : Stand p l e R s m args below meth c T locs cells slots) (hx : p.tables.exec = Jvm.exec) {k : Fin 4} {v : UInt64} (hp : pc + 1 = pc') (hd : decode c.code pc = .ok (.dload_n k, 1)) (hl : Ls[k.val]? = some (.val (.double v))) (k : own_Goes p e below T (mkF m pc' Ls (.double v :: st)) Q) : own_Goes p e below T (mkF m pc Ls st) Q := by
  subst hp; exact own_step (fun _ q => XS.dloadN X.here hx rfl hd hl q) k
theorem own_dstore (X : Stand p l e R s m args below meth c T locs cells slots) (hx : p.tables.exec = Jvm.exec) {k : Nat} {v : UInt64} (hp : pc + 2 = pc') (hd : decode c.code pc = .ok (.dstore k, 2)) (hl : storeLocals Ls k (.double v) = some Ls') (k : own_Goes p e below T (mkF m pc' Ls' st) Q) : own_Goes p e below T (mkF m pc Ls (.double v :: st)) Q := by
  subst hp; exact own_step (fun _ q => XS.dstore X.here hx rfl hd rfl hl q) k
theorem own_dstoreN (X : Stand p l e R s m args below meth c T locs cells slots) (hx : p.tables.exec = Jvm.exec) {k : Fin 4} {v : UInt64} (hp : pc + 1 = pc') (hd : decode c.code pc = .ok (.dstore_n k, 1)) (hl : storeLocals Ls k.val (.double v) = some Ls') (k : own_Goes p e below T (mkF m pc' Ls' st) Q) : own_Goes p e below T (mkF m pc Ls (.double v :: st)) Q := by
  subst hp; exact own_step (fun _ q => XS.dstoreN X.here hx rfl hd rfl hl q) k
theorem own_dconst0 (X : Stand p l e R s m args below meth c T locs cells slots) (hx : p.tables.exec = Jvm.exec) {v : UInt64} (hp : pc + 1 = pc') (hd : decode c.code pc = .ok (.dconst 0, 1)) (hv : FP.dconst0 = v) (k : own_Goes p e below T (mkF m pc' Ls (.double v :: st)) Q) : own_Goes p e below T (mkF m pc Ls st) Q := by
  subst hp; exact own_step (fun _ q => XS.dconst0 X.here hx rfl hd hv q) k
theorem own_dconst1 (X : Stand p l e R s m args below meth c T locs cells slots) (hx : p.tables.exec = Jvm.exec) {v : UInt64} (hp : pc + 1 = pc') (hd : decode c.code pc = .ok (.dconst 1, 1)) (hv : FP.dconst1 = v) (k : own_Goes p e below T (mkF m pc' Ls (.double v :: st)) Q) : own_Goes p e below T (mkF m pc Ls st) Q := by
  subst hp; exact own_step (fun _ q => XS.dconst1 X.here hx rfl hd hv q) k
theorem own_i2d (X : Stand p l e R s m args below meth c T locs cells slots) (hx : p.tables.exec = Jvm.exec) {x : Int32} {v : UInt64} (hp : pc + 1 = pc') (hd : decode c.code pc = .ok (.i2d, 1)) (hv : FP.i2d x = v) (k : own_Goes p e below T (mkF m pc' Ls (.double v :: st)) Q) : own_Goes p e below T (mkF m pc Ls (.int x :: st)) Q := by
  subst hp; exact own_step (fun _ q => XS.i2dS X.here hx rfl hd rfl hv q) k
theorem own_l2d (X : Stand p l e R s m args below meth c T locs cells slots) (hx : p.tables.exec = Jvm.exec) {x : Int64} {v : UInt64} (hp : pc + 1 = pc') (hd : decode c.code pc = .ok (.l2d, 1)) (hv : FP.l2d x = v) (k : own_Goes p e below T (mkF m pc' Ls (.double v :: st)) Q) : own_Goes p e below T (mkF m pc Ls (.long x :: st)) Q := by
  subst hp; exact own_step (fun _ q => XS.l2dS X.here hx rfl hd rfl hv q) k
theorem own_dneg (X : Stand p l e R s m args below meth c T locs cells slots) (hx : p.tables.exec = Jvm.exec) {x v : UInt64} (hp : pc + 1 = pc') (hd : decode c.code pc = .ok (.dneg, 1)) (hv : FP.dneg x = v) (k : own_Goes p e below T (mkF m pc' Ls (.double v :: st)) Q) : own_Goes p e below T (mkF m pc Ls (.double x :: st)) Q := by
  subst hp; exact own_step (fun _ q => XS.dnegS X.here hx rfl hd rfl hv q) k
theorem own_dcmp (X : Stand p l e R s m args below meth c T locs cells slots) (hx : p.tables.exec = Jvm.exec) {o : CmpOp} {x y : UInt64} {v : Int32} (hp : pc + 1 = pc') (hd : decode c.code pc = .ok (.dcmp o, 1)) (hv : cmpValue (FP.dcmp x y) o = v) (k : own_Goes p e below T (mkF m pc' Ls (.int v :: st)) Q) : own_Goes p e below T (mkF m pc Ls (.double y :: .double x :: st)) Q := by
  subst hp; exact own_step (fun _ q => XS.dcmpS X.here hx rfl hd rfl hv q) k
theorem own_dadd (X : Stand p l e R s m args below meth c T locs cells slots) (hx : p.tables.exec = Jvm.exec) {x y v : UInt64} (hp : pc + 1 = pc') (hd : decode c.code pc = .ok (.dadd, 1)) (hn : Jvm.Free.Fl.NoNaN64 (FP.dadd x y)) (hv : FP.dadd x y = v) (k : own_Goes p e below T (mkF m pc' Ls (.double v :: st)) Q) : own_Goes p e below T (mkF m pc Ls (.double y :: .double x :: st)) Q := by
  subst hp; exact own_step (fun _ q => XS.daddS X.here hx rfl hd rfl hn hv q) k
theorem own_dsub (X : Stand p l e R s m args below meth c T locs cells slots) (hx : p.tables.exec = Jvm.exec) {x y v : UInt64} (hp : pc + 1 = pc') (hd : decode c.code pc = .ok (.dsub, 1)) (hn : Jvm.Free.Fl.NoNaN64 (FP.dsub x y)) (hv : FP.dsub x y = v) (k : own_Goes p e below T (mkF m pc' Ls (.double v :: st)) Q) : own_Goes p e below T (mkF m pc Ls (.double y :: .double x :: st)) Q := by
  subst hp; exact own_step (fun _ q => XS.dsubS X.here hx rfl hd rfl hn hv q) k
theorem own_dmul (X : Stand p l e R s m args below meth c T locs cells slots) (hx : p.tables.exec = Jvm.exec) {x y v : UInt64} (hp : pc + 1 = pc') (hd : decode c.code pc = .ok (.dmul, 1)) (hn : Jvm.Free.Fl.NoNaN64 (FP.dmul x y)) (hv : FP.dmul x y = v) (k : own_Goes p e below T (mkF m pc' Ls (.double v :: st)) Q) : own_Goes p e below T (mkF m pc Ls (.double y :: .double x :: st)) Q := by
  subst hp; exact own_step (fun _ q => XS.dmulS X.here hx rfl hd rfl hn hv q) k
theorem own_ddiv (X : Stand p l e R s m args below meth c T locs cells slots) (hx : p.tables.exec = Jvm.exec) {x y v : UInt64} (hp : pc + 1 = pc') (hd : decode c.code pc = .ok (.ddiv, 1)) (hn : Jvm.Free.Fl.NoNaN64 (FP.ddiv x y)) (hv : FP.ddiv x y = v) (k : own_Goes p e below T (mkF m pc' Ls (.double v :: st)) Q) : own_Goes p e below T (mkF m pc Ls (.double y :: .double x :: st)) Q := by
  subst hp; exact own_step (fun _ q => XS.ddivS X.here hx rfl hd rfl hn hv q) k
theorem own_ldcD (X : Stand p l e R s m args below meth c T locs cells slots) (hx : p.tables.exec = Jvm.exec) (hZ : Z.Warmed39 s.vm) {own : String} {index : Nat} {v : UInt64} (hown : s.vm.findClass own = some m.cls) (w : (Jvm.Cond.constantDouble own index v).before a0 Z = true) (hp : pc + 3 = pc') (hd : decode c.code pc = .ok (.ldc2_w index, 3)) (k : own_Goes p e below T (mkF m pc' Ls (.double v :: st)) Q) : own_Goes p e below T (mkF m pc Ls st) Q := by
  subst hp; exact own_step (fun t q => X.ldc2DoubleC hx hown (mvT hZ w) (g := mkF m pc Ls st) rfl hd t q) k
theorem own_dret (X : Stand p l e R s m args below meth c T locs cells slots) (hx : p.tables.exec = Jvm.exec) (hlk : meth.locks = false) {z : UInt64} (hret : meth.sig.returnType = some .double) (hd : decode c.code pc = .ok (.dreturn, 1)) {K : Option Value → Heap → List Loc → Prop} {rc rs : Nat} (hc : cells ≤ rc) (hs : slots ≤ rs) (hQ : K (some (.double z)) T.heap locs) : own_Goes p e below T (mkF m pc Ls (.double z :: st)) (own_Ret s K rc rs) :=
  own_retW X hx hlk (fun q => by rw [hret] at q; cases q) (fun fs hr => retOut X hx hret rfl (Or.inr (Or.inr (Or.inl ⟨rfl, rfl, z, rfl⟩))) hd hr) hc hs hQ
theorem own_getF (X : Stand p l e R s m args below meth c T locs cells slots) (hx : p.tables.exec = Jvm.exec) (hZ : Z.Warmed39 s.vm) {own R0 O n d host : String} {index : Nat} (hown : s.vm.findClass own = some m.cls) (w : (Jvm.Cond.fieldLink own index R0 n d).before a0 Z = true ∨ (Jvm.Cond.fieldLinkNest own index R0 n d host).before a0 Z = true) (via : Via Z R0 O n d) (eT : T.heap = h) {a : Addr} {v : Value} (F : Fld Z h a O n d v) (hp : pc + 3 = pc') (hd : decode c.code pc = .ok (.getfield index, 3))
    (k : ∀ T', Stand p l e R s m args below meth c T' locs cells slots → T'.heap = h → own_Goes p e below T' (mkF m pc' Ls (v :: st)) Q) : own_Goes p e below T (mkF m pc Ls (.ref a :: st)) Q := by
  subst hp
  obtain ⟨T', X', e', stp⟩ := getF X hx hZ hown w via eT F (g := mkF m pc Ls (.ref a :: st)) rfl rfl hd
  exact own_step stp (k T' X' e')
theorem own_putF (X : Stand p l e R s m args below meth c T locs cells slots) (hx : p.tables.exec = Jvm.exec) (hZ : Z.Warmed39 s.vm) {own R0 O n d host C : String} {index kk : Nat} {ty : FieldType} (hown : s.vm.findClass own = some m.cls) (w : (Jvm.Cond.fieldLink own index R0 n d).before a0 Z = true ∨ (Jvm.Cond.fieldLinkNest own index R0 n d host).before a0 Z = true) (via : Via Z R0 O n d) (eT : T.heap = h) {a : Addr} {v old : Value} (F : Fld Z h a O n d old) (E : Exa Z h a C)
    (L : (Jvm.Cond.lays C O n d).before a0 Z = true ∨ ((Jvm.Cond.laysFinal C O n d).before a0 Z = true ∧ own = O ∧ meth.name = "<init>")) (wi : (Jvm.Cond.instantiable C kk).before a0 Z = true) (hty : parseFieldDescriptor d = some ty) (hn : narrow ty v = v) (hf : fits ty v = true) (hp : pc + 3 = pc') (hd : decode c.code pc = .ok (.putfield index, 3))
    (k : ∀ T' h', Stand p l e R s m args below meth c T' (locs ++ [⟨a, Jvm.RoadKit.slotOf Z O n d⟩]) cells slots → T'.heap = h' → Wr h h' a (Jvm.RoadKit.slotOf Z O n d) v → own_Goes p e below T' (mkF m pc' Ls st) Q) : own_Goes p e below T (mkF m pc Ls (v :: .ref a :: st)) Q := by
  subst hp
  obtain ⟨T', h', X', e', W', stp⟩ := putF X hx hZ hown w via eT F E L wi hty hn hf (g := mkF m pc Ls (v :: .ref a :: st)) rfl rfl hd
  exact own_step stp (k T' h' X' e' W')
theorem own_getS (X : Stand p l e R s m args below meth c T locs cells slots) (hx : p.tables.exec = Jvm.exec) (hZ : Z.Warmed39 s.vm) {own R0 O n d : String} {index : Nat} (hown : s.vm.findClass own = some m.cls) (w : (Jvm.Cond.fieldLink own index R0 n d).before a0 Z = true) (via : Via Z R0 O n d) (eT : T.heap = h) {v : Value} (F : Sta Z h O n d v) (hp : pc + 3 = pc') (hd : decode c.code pc = .ok (.getstatic index, 3))
    (k : ∀ T', Stand p l e R s m args below meth c T' locs cells slots → T'.heap = h → own_Goes p e below T' (mkF m pc' Ls (v :: st)) Q) : own_Goes p e below T (mkF m pc Ls st) Q := by
  subst hp
  obtain ⟨T', X', e', stp⟩ := getS X hx hZ (host := "") hown w via eT F (g := mkF m pc Ls st) rfl hd
  exact own_step stp (k T' X' e')
theorem own_new (X : Stand p l e R s m args below meth c T locs cells slots) (hx : p.tables.exec = Jvm.exec) (hZ : Z.Warmed39 s.vm) {own C : String} {index n : Nat} (hown : s.vm.findClass own = some m.cls) (w : (Jvm.Cond.classLink own index C).before a0 Z = true) (wi : (Jvm.Cond.instantiable C n).before a0 Z = true) (wz : (Jvm.Cond.initialized C).before a0 Z = true) (eT : T.heap = h) (hp : pc + 3 = pc') (hd : decode c.code pc = .ok (.new index, 3)) (hc : cells + 1 ≤ R.cells) (hl : slots + n ≤ R.slots)
    (k : ∀ T' h', Stand p l e R s m args below meth c T' locs (cells + 1) (slots + n) → T'.heap = h' → Ext h h' → Exa Z h' h.size C → (∀ {O nm d : String} {ty : FieldType}, Laid Z a0 C O nm d → parseFieldDescriptor d = some ty → Fld Z h' h.size O nm d (defaultValue ty)) → own_Goes p e below T' (mkF m pc' Ls (.ref h.size :: st)) Q) : own_Goes p e below T (mkF m pc Ls st) Q := by
  subst hp
  obtain ⟨T', h', X', e', E', A', D', -, stp⟩ := newO X hx hZ hown w wi wz eT (g := mkF m pc Ls st) rfl hd hc hl
  exact own_step stp (k T' h' X' e' E' A' D')
theorem own_initO (X : Stand p l e R s m args below meth c T locs cells slots) (hx : p.tables.exec = Jvm.exec) (hZ : Z.Warmed39 s.vm) {own : String} {idx : Nat} (hown : s.vm.findClass own = some m.cls) (w1 : (Jvm.Cond.methodLink own idx Lib.objectInit).before a0 Z = true) (w2 : (Jvm.Cond.instanceMethod Lib.objectInit).before a0 Z = true) (w3 : (Jvm.Cond.code Lib.objectInit ⟨#[0xb1]⟩ 1 none).before a0 Z = true) (eT : T.heap = h) (hsize : Ls.size = c.maxLocals) {a : Addr} (hp : pc + 3 = pc') (hd : decode c.code pc = .ok (.invokespecial idx, 3)) (hf : 1 ≤ R.frames) {W : Nat} (hW : (st.map fun v => v.category).sum ≤ W) (hl : W + 12 ≤ R.locals)
    (k : ∀ T', Stand p l e R s m args below meth c T' locs cells slots → T'.heap = h → own_Goes p e below T' (mkF m pc' Ls st) Q) : own_Goes p e below T (mkF m pc Ls (.ref a :: st)) Q := by
  subst hp
  obtain ⟨T', X', e', stp⟩ := initO X hx hZ hown w1 w2 w3 eT (g := mkF m pc Ls (.ref a :: st)) rfl hsize rfl hd hf (W := W) (by show 2 * 0 + _ ≤ _; omega) hl
  exact own_step stp (k T' X' e')
theorem own_callS (X : Stand p l e R s m args below meth c T locs cells slots) (hx : p.tables.exec = Jvm.exec) (hZ : Z.Warmed39 s.vm) {own : String} {index : Nat} {y : MethodName} {bytes : ByteArray} {maxL : Nat} {rt : Option FieldType} (hown : s.vm.findClass own = some m.cls) (w1 : (Jvm.Cond.methodLink own index y).before a0 Z = true) (w2 : (Jvm.Cond.static y).before a0 Z = true) (w3 : (Jvm.Cond.initialized y.cls).before a0 Z = true) (w4 : (Jvm.Cond.code y bytes maxL rt).before a0 Z = true) (hy : y.cls ≠ "java/lang/invoke/MethodHandle" ∧ y.cls ≠ "java/lang/invoke/VarHandle") {rm : Room} {as' : Array Value} {K : Option Value → Heap → List Loc → Prop} {W : Nat} (hM : MetFree l y (head1 [Jvm.Cond.code y bytes maxL rt] rm) (fun a U => a = as' ∧ Z.Warmed39 U.vm ∧ U.heap = h) (fun _ _ _ _ _ => True) (fun _ U o U' => ∃ v L, o = .returned v ∧ K v U'.heap L ∧ FrameEnd U o U' L rm.cells rm.slots)) (hf : rm.frames + 1 ≤ R.frames) (hl : W + (maxL + 11) + rm.locals ≤ R.locals) (hc : cells + rm.cells ≤ R.cells) (hs : slots + rm.slots ≤ R.slots) (eT : T.heap = h) (hsize : Ls.size = c.maxLocals) {argsL rest : List Value} (has : argsL.toArray = as') (hlen : ∀ sig, parseMethodDescriptor y.desc = some sig → argsL.length = sig.parameters.length) (hst : st = argsL.reverse ++ rest) (hW : (rest.map fun v => v.category).sum ≤ W) (hp : pc + 3 = pc') (hd : decode c.code pc = .ok (.invokestatic index, 3))
    (k : ∀ v T' L, Stand p l e R s m args below meth c T' (locs ++ L) (cells + rm.cells) (slots + rm.slots) → K v T'.heap L → own_Goes p e below T' (mkF m pc' Ls (v.toList ++ rest)) Q) : own_Goes p e below T (mkF m pc Ls st) Q := by
  subst hp
  obtain ⟨v, _, ⟨T', L', k', n'⟩, -, X', ⟨Lc, hQ, l1, y1, z1⟩, stp⟩ := Jvm.LawKit.callS X hx (y := y) hown (mvT hZ w1) (mvT hZ w2) (mvT hZ w3) (mvT hZ w4) hy (backOf (W := W) hM hZ w4 w3 hf hl) (g := mkF m pc Ls st) rfl hsize (argsL := argsL) (rest := rest) hlen hst (by show 2 * 0 + _ ≤ _; omega) hd (fun _ _ => ⟨has, eT, hc, hs⟩)
  dsimp only [Pt.U, Pt.locs, Pt.cells, Pt.slots] at X' l1 y1 z1 stp hQ
  subst l1 y1 z1
  exact own_step stp (k v T' Lc X' hQ)
theorem own_callC (X : Stand p l e R s m args below meth c T locs cells slots) (hx : p.tables.exec = Jvm.exec) (hZ : Z.Warmed39 s.vm) {own : String} {index : Nat} {y : MethodName} {bytes : ByteArray} {maxL : Nat} {a : Addr} (hy1 : y.name = "<init>") (hown : s.vm.findClass own = some m.cls) (w1 : (Jvm.Cond.methodLink own index y).before a0 Z = true) (w2 : (Jvm.Cond.instanceMethod y).before a0 Z = true) (w3 : (Jvm.Cond.initialized y.cls).before a0 Z = true) (w4 : (Jvm.Cond.code y bytes maxL none).before a0 Z = true) (hy : y.cls ≠ "java/lang/invoke/MethodHandle" ∧ y.cls ≠ "java/lang/invoke/VarHandle") {rm : Room} {as' : Array Value} {K : Option Value → Heap → List Loc → Prop} {W : Nat} (hM : MetFree l y (head1 [Jvm.Cond.code y bytes maxL none] rm) (fun a U => a = as' ∧ Z.Warmed39 U.vm ∧ U.heap = h) (fun _ _ _ _ _ => True) (fun _ U o U' => ∃ v L, o = .returned v ∧ K v U'.heap L ∧ FrameEnd U o U' L rm.cells rm.slots)) (hf : rm.frames + 1 ≤ R.frames) (hl : W + (maxL + 11) + rm.locals ≤ R.locals) (hc : cells + rm.cells ≤ R.cells) (hs : slots + rm.slots ≤ R.slots) (eT : T.heap = h) (hsize : Ls.size = c.maxLocals) {argsL rest : List Value} (has : (Value.ref a :: argsL).toArray = as') (hlen : ∀ sig, parseMethodDescriptor y.desc = some sig → argsL.length = sig.parameters.length) (hst : st = argsL.reverse ++ .ref a :: rest) (hW : (rest.map fun v => v.category).sum ≤ W) (hp : pc + 3 = pc') (hd : decode c.code pc = .ok (.invokespecial index, 3))
    (k : ∀ v T' L, Stand p l e R s m args below meth c T' (locs ++ L) (cells + rm.cells) (slots + rm.slots) → K v T'.heap L → own_Goes p e below T' (mkF m pc' Ls (v.toList ++ rest)) Q) : own_Goes p e below T (mkF m pc Ls st) Q := by
  subst hp
  obtain ⟨v, _, ⟨T', L', k', n'⟩, -, X', ⟨Lc, hQ, l1, y1, z1⟩, stp⟩ := X.specialBack hx (y := y) hy1 hown (mvT hZ w1) (mvT hZ w2) (mvT hZ w4) hy (backOf (W := W) hM hZ w4 w3 hf hl) (g := mkF m pc Ls st) rfl hsize (Steps.refl _) (a := a) (argsL := argsL) (rest := rest) hlen hst (by show 2 * 0 + _ ≤ _; omega) hd (fun _ _ => ⟨has, eT, hc, hs⟩)
  dsimp only [Pt.U, Pt.locs, Pt.cells, Pt.slots] at X' l1 y1 z1 stp hQ
  subst l1 y1 z1
  exact own_step (fun _ q => stp.trans q) (k v T' Lc X' hQ)
theorem own_callV (X : Stand p l e R s m args below meth c T locs cells slots) (hx : p.tables.exec = Jvm.exec) (hZ : Z.Warmed39 s.vm) {own C : String} {index : Nat} {y : MethodName} {bytes : ByteArray} {maxL : Nat} {rt : Option FieldType} {a : Addr} (hown : s.vm.findClass own = some m.cls) (w1 : (Jvm.Cond.methodLink own index y).before a0 Z = true) (w2 : (Jvm.Cond.declares y).before a0 Z = true) (w5 : (Jvm.Cond.selects C y y).before a0 Z = true) (w6 : (Jvm.Cond.instanceMethod y).before a0 Z = true) (w3 : (Jvm.Cond.initialized y.cls).before a0 Z = true) (w4 : (Jvm.Cond.code y bytes maxL rt).before a0 Z = true) (E : Exa Z h a C) (hy : y.cls ≠ "java/lang/invoke/MethodHandle" ∧ y.cls ≠ "java/lang/invoke/VarHandle") {rm : Room} {as' : Array Value} {K : Option Value → Heap → List Loc → Prop} {W : Nat} (hM : MetFree l y (head1 [Jvm.Cond.code y bytes maxL rt] rm) (fun a U => a = as' ∧ Z.Warmed39 U.vm ∧ U.heap = h) (fun _ _ _ _ _ => True) (fun _ U o U' => ∃ v L, o = .returned v ∧ K v U'.heap L ∧ FrameEnd U o U' L rm.cells rm.slots)) (hf : rm.frames + 1 ≤ R.frames) (hl : W + (maxL + 11) + rm.locals ≤ R.locals) (hc : cells + rm.cells ≤ R.cells) (hs : slots + rm.slots ≤ R.slots) (eT : T.heap = h) (hsize : Ls.size = c.maxLocals) {argsL rest : List Value} (has : (Value.ref a :: argsL).toArray = as') (hlen : ∀ sig, parseMethodDescriptor y.desc = some sig → argsL.length = sig.parameters.length) (hst : st = argsL.reverse ++ .ref a :: rest) (hW : (rest.map fun v => v.category).sum ≤ W) (hp : pc + 3 = pc') (hd : decode c.code pc = .ok (.invokevirtual index, 3))
    (k : ∀ v T' L, Stand p l e R s m args below meth c T' (locs ++ L) (cells + rm.cells) (slots + rm.slots) → K v T'.heap L → own_Goes p e below T' (mkF m pc' Ls (v.toList ++ rest)) Q) : own_Goes p e below T (mkF m pc Ls st) Q := by
  subst hp
  obtain ⟨cq, kq, qa, qb, qc⟩ := isOf hZ eT E
  obtain ⟨v, _, ⟨T', L', k', n'⟩, -, X', ⟨Lc, hQ, l1, y1, z1⟩, stp⟩ := X.virtualBack hx (y := y) (z := y) hown (mvT hZ w1) (mvT hZ w2) (notFace_of_selects (args := #[]) (mvT hZ w5)) (mvT hZ w5) (mvT hZ w6) hy (backOf (W := W) hM hZ w4 w3 hf hl) qa qc (g := mkF m pc Ls st) rfl hsize (Steps.refl _) (argsL := argsL) (rest := rest) hlen hst (by show 2 * 0 + _ ≤ _; omega) hd (fun _ _ => ⟨has, eT, hc, hs⟩)
  dsimp only [Pt.U, Pt.locs, Pt.cells, Pt.slots] at X' l1 y1 z1 stp hQ
  subst l1 y1 z1
  exact own_step (fun _ q => stp.trans q) (k v T' Lc X' hQ)
theorem own_callP (X : Stand p l e R s m args below meth c T locs cells slots) (hx : p.tables.exec = Jvm.exec) (hZ : Z.Warmed39 s.vm) {own C : String} {index : Nat} {y z z' : MethodName} {bytes : ByteArray} {maxL : Nat} {rt : Option FieldType} {a : Addr} {D : String} (hown : s.vm.findClass own = some m.cls) (w1 : (Jvm.Cond.methodLink own index y).before a0 Z = true) (w6 : (Jvm.Cond.instanceMethod y).before a0 Z = true) (w7 : (Jvm.Cond.privateMethod y).before a0 Z = true) (w5 : (Jvm.Cond.selects C z z').before a0 Z = true) (hcls : z'.cls = y.cls) (w3 : (Jvm.Cond.initialized y.cls).before a0 Z = true) (w4 : (Jvm.Cond.code y bytes maxL rt).before a0 Z = true) (E : Exa Z h a D) (hy : y.cls ≠ "java/lang/invoke/MethodHandle" ∧ y.cls ≠ "java/lang/invoke/VarHandle") {rm : Room} {as' : Array Value} {K : Option Value → Heap → List Loc → Prop} {W : Nat} (hM : MetFree l y (head1 [Jvm.Cond.code y bytes maxL rt] rm) (fun a U => a = as' ∧ Z.Warmed39 U.vm ∧ U.heap = h) (fun _ _ _ _ _ => True) (fun _ U o U' => ∃ v L, o = .returned v ∧ K v U'.heap L ∧ FrameEnd U o U' L rm.cells rm.slots)) (hf : rm.frames + 1 ≤ R.frames) (hl : W + (maxL + 11) + rm.locals ≤ R.locals) (hc : cells + rm.cells ≤ R.cells) (hs : slots + rm.slots ≤ R.slots) (eT : T.heap = h) (hsize : Ls.size = c.maxLocals) {argsL rest : List Value} (has : (Value.ref a :: argsL).toArray = as') (hlen : ∀ sig, parseMethodDescriptor y.desc = some sig → argsL.length = sig.parameters.length) (hst : st = argsL.reverse ++ .ref a :: rest) (hW : (rest.map fun v => v.category).sum ≤ W) (hp : pc + 3 = pc') (hd : decode c.code pc = .ok (.invokevirtual index, 3))
    (k : ∀ v T' L, Stand p l e R s m args below meth c T' (locs ++ L) (cells + rm.cells) (slots + rm.slots) → K v T'.heap L → own_Goes p e below T' (mkF m pc' Ls (v.toList ++ rest)) Q) : own_Goes p e below T (mkF m pc Ls st) Q := by
  subst hp
  have hs5 : (Jvm.Cond.selects C z z').before args s = true := mvT hZ w5
  obtain ⟨c2, r2, m2, -, -, q3, -, kP, hkP, hkPi⟩ := Cond.selects_spec hs5
  have hc2 : s.vm.findClass y.cls = some m2.cls := hcls ▸ findClass_of_methodNamed q3
  have hpriv := Cond.privateMethod_at (mvP hZ w7 (args := #[]))
  have hinst : (Jvm.Cond.instanceMethod y).before args s = true := mvT hZ w6
  have hsel := selects_self_of_private (args := args) hc2 hkP hkPi hpriv hinst hy
  obtain ⟨cq, qc, qc'⟩ := E.cell
  obtain ⟨v, _, ⟨T', L', k', n'⟩, -, X', ⟨Lc, hQ, l1, y1, z1⟩, stp⟩ := X.privateBack hx (y := y) hown (mvT hZ w1) hinst hsel hpriv (mvT hZ w4) hy (backOf (W := W) hM hZ w4 w3 hf hl) (g := mkF m pc Ls st) rfl hsize (Steps.refl _) (a := a) (cell := cq) (by rw [eT]; exact qc) qc' (argsL := argsL) (rest := rest) hlen hst (by show 2 * 0 + _ ≤ _; omega) hd (fun _ _ => ⟨has, eT, hc, hs⟩)
  dsimp only [Pt.U, Pt.locs, Pt.cells, Pt.slots] at X' l1 y1 z1 stp hQ
  subst l1 y1 z1
  exact own_step (fun _ q => stp.trans q) (k v T' Lc X' hQ)
theorem own_in {j : Int32} {k n : Nat} (hj : ¬ j < 0) (hk : j.toNatClampNeg = k) (hn : k < n) {cl : Cell} (hs : cl.slots.size = n) : ¬ (j < 0 ∨ cl.slots.size ≤ j.toNatClampNeg) := by
  rintro (q | q)
  · exact hj q
  · omega
theorem own_Arr.lt {a : Addr} {ty : FieldType} {n : Nat} {f : Nat → Value} (A : own_Arr Z h a ty n f) : a < h.size := by obtain ⟨c, A, -⟩ := A; exact A.lt
theorem own_Arr.ext {a : Addr} {ty : FieldType} {n : Nat} {f : Nat → Value} (E : Ext h h') (A : own_Arr Z h a ty n f) : own_Arr Z h' a ty n f := by obtain ⟨c, A, r⟩ := A; exact ⟨c, A.ext E, r⟩
theorem own_Arr.other {a b : Addr} {ty : FieldType} {n sl : Nat} {v : Value} {f : Nat → Value} (W : Wr h h' a sl v) (A : own_Arr Z h b ty n f) (q : b ≠ a) : own_Arr Z h' b ty n f := by obtain ⟨c, A, r⟩ := A; exact ⟨c, A.other W q, r⟩
theorem own_Arr.keep {a : Addr} {ty : FieldType} {n : Nat} {ws : List Addr} {f : Nat → Value} (K : Keep h h' ws) (A : own_Arr Z h a ty n f) (q : a ∉ ws) : own_Arr Z h' a ty n f := by obtain ⟨c, A, r⟩ := A; exact ⟨c, ⟨K.2.1 a c A.1 q, A.2⟩, r⟩
theorem own_Arr.congr {a : Addr} {ty : FieldType} {n : Nat} {f g : Nat → Value} (A : own_Arr Z h a ty n f) (q : ∀ j, j < n → f j = g j) : own_Arr Z h a ty n g := by
  obtain ⟨c, A, r1, r2, r3⟩ := A
  exact ⟨c, A, r1, r2, fun j hj => by rw [r3 j hj, q j hj]⟩
theorem own_sizWr {a : Addr} {sl n0 : Nat} {v : Value} (W : Wr h h' a sl v) (q : n0 ≤ h.size) : n0 ≤ h'.size := by rw [W.size]; exact q
theorem own_Arr.set {a : Addr} {ty : FieldType} {n k : Nat} {f : Nat → Value} {v : Value} {cl : Cell} (A : Arr Z h a cl ty) (r1 : cl.slots.size = n) (r2 : n < 2 ^ 31) (r3 : ∀ j, j < n → cl.slots[j]? = some (f j)) (hk : k < n) (W : Wr h h' a k v) : own_Arr Z h' a ty n (own_upd f k v) := by
  refine ⟨cl.setSlot k v, Arr.same W A, by rw [sz_set]; exact r1, r2, fun j hj => ?_⟩
  show (cl.slots.setIfInBounds k v)[j]? = _
  rw [Array.getElem?_setIfInBounds]
  by_cases q : k = j
  · subst q; simp [own_upd, r1, hk]
  · have q' : ¬ j = k := fun z => q z.symm
    simp [own_upd, q, q', r3 j hj]
theorem own_newarr (X : Stand p l e R s m args below meth c T locs cells slots) (hx : p.tables.exec = Jvm.exec) (hZ : Z.Warmed39 s.vm) {aty : ArrayType} (w : (Jvm.Cond.arrayClass (newarray.typeOf aty)).before a0 Z = true) (eT : T.heap = h) {n : Int32} (hp : pc + 2 = pc') (hd : decode c.code pc = .ok (.newarray aty, 2)) (hn : ¬ n < 0) {N : Nat} (hN : n.toNatClampNeg = N) {cap : Nat} (hcap : n.toNatClampNeg ≤ cap) (hb : cap * 8 ≤ 536870912) (hc : cells + 1 ≤ R.cells) (hl : slots + cap ≤ R.slots)
    (k : ∀ T' h', Stand p l e R s m args below meth c T' locs (cells + 1) (slots + cap) → T'.heap = h' → Ext h h' → own_Arr Z h' h.size (newarray.typeOf aty) N (fun _ => defaultValue (newarray.typeOf aty)) → own_Goes p e below T' (mkF m pc' Ls (.ref h.size :: st)) Q) : own_Goes p e below T (mkF m pc Ls (.int n :: st)) Q := by
  subst hp
  obtain ⟨T', h', cA, X', e', E', A', stp⟩ := newP X hx hZ w eT (g := mkF m pc Ls (.int n :: st)) rfl hd rfl hn hcap hb hc hl
  refine own_step stp (k T' h' X' e' E' ⟨_, A', by rw [sz_new, hN], by rw [← hN]; exact (back32 hn).2, fun j hj => ?_⟩)
  simp [newA, hN, hj]
theorem own_stI (X : Stand p l e R s m args below meth c T locs cells slots) (hx : p.tables.exec = Jvm.exec) (hZ : Z.Warmed39 s.vm) (eT : T.heap = h) {a : Addr} {n k : Nat} {f : Nat → Value} (A : own_Arr Z h a .int n f) {j : Int32} {x : Int32} (hj : ¬ j < 0) (hk : j.toNatClampNeg = k) (hn : k < n)  (hp : pc + 1 = pc') (hd : decode c.code pc = .ok (.iastore, 1))
    (q : ∀ T' h', Stand p l e R s m args below meth c T' (locs ++ [⟨a, k⟩]) cells slots → T'.heap = h' → Wr h h' a k (.int x) → own_Arr Z h' a .int n (own_upd f k (.int x)) → own_Goes p e below T' (mkF m pc' Ls st) Q) : own_Goes p e below T (mkF m pc Ls (.int x :: .int j :: .ref a :: st)) Q := by
  subst hp
  obtain ⟨cl, A, r1, r2, r3⟩ := A
  obtain ⟨T', h', X', e', W', stp⟩ := stI X hx hZ eT A (own_in hj hk hn r1) (g := mkF m pc Ls (.int x :: .int j :: .ref a :: st)) rfl rfl hd
  subst hk
  exact own_step stp (q T' h' X' e' W' (own_Arr.set A r1 r2 r3 hn W'))
theorem own_stJ (X : Stand p l e R s m args below meth c T locs cells slots) (hx : p.tables.exec = Jvm.exec) (hZ : Z.Warmed39 s.vm) (eT : T.heap = h) {a : Addr} {n k : Nat} {f : Nat → Value} (A : own_Arr Z h a .long n f) {j : Int32} {x : Int64} (hj : ¬ j < 0) (hk : j.toNatClampNeg = k) (hn : k < n)  (hp : pc + 1 = pc') (hd : decode c.code pc = .ok (.lastore, 1))
    (q : ∀ T' h', Stand p l e R s m args below meth c T' (locs ++ [⟨a, k⟩]) cells slots → T'.heap = h' → Wr h h' a k (.long x) → own_Arr Z h' a .long n (own_upd f k (.long x)) → own_Goes p e below T' (mkF m pc' Ls st) Q) : own_Goes p e below T (mkF m pc Ls (.long x :: .int j :: .ref a :: st)) Q := by
  subst hp
  obtain ⟨cl, A, r1, r2, r3⟩ := A
  obtain ⟨T', h', X', e', W', stp⟩ := stJ X hx hZ eT A (own_in hj hk hn r1) (g := mkF m pc Ls (.long x :: .int j :: .ref a :: st)) rfl rfl hd
  subst hk
  exact own_step stp (q T' h' X' e' W' (own_Arr.set A r1 r2 r3 hn W'))
theorem own_stB (X : Stand p l e R s m args below meth c T locs cells slots) (hx : p.tables.exec = Jvm.exec) (hZ : Z.Warmed39 s.vm) (eT : T.heap = h) {a : Addr} {n k : Nat} {f : Nat → Value} (A : own_Arr Z h a .byte n f) {j : Int32} {x y : Int32} (hj : ¬ j < 0) (hk : j.toNatClampNeg = k) (hn : k < n) (hv : nar .byte x = y) (hp : pc + 1 = pc') (hd : decode c.code pc = .ok (.bastore, 1))
    (q : ∀ T' h', Stand p l e R s m args below meth c T' (locs ++ [⟨a, k⟩]) cells slots → T'.heap = h' → Wr h h' a k (.int y) → own_Arr Z h' a .byte n (own_upd f k (.int y)) → own_Goes p e below T' (mkF m pc' Ls st) Q) : own_Goes p e below T (mkF m pc Ls (.int x :: .int j :: .ref a :: st)) Q := by
  subst hp; subst hv
  obtain ⟨cl, A, r1, r2, r3⟩ := A
  obtain ⟨T', h', X', e', W', stp⟩ := stB X hx hZ eT A (own_in hj hk hn r1) (g := mkF m pc Ls (.int x :: .int j :: .ref a :: st)) rfl rfl hd
  subst hk
  exact own_step stp (q T' h' X' e' W' (own_Arr.set A r1 r2 r3 hn W'))
theorem own_stC (X : Stand p l e R s m args below meth c T locs cells slots) (hx : p.tables.exec = Jvm.exec) (hZ : Z.Warmed39 s.vm) (eT : T.heap = h) {a : Addr} {n k : Nat} {f : Nat → Value} (A : own_Arr Z h a .char n f) {j : Int32} {x y : Int32} (hj : ¬ j < 0) (hk : j.toNatClampNeg = k) (hn : k < n) (hv : nar .char x = y) (hp : pc + 1 = pc') (hd : decode c.code pc = .ok (.castore, 1))
    (q : ∀ T' h', Stand p l e R s m args below meth c T' (locs ++ [⟨a, k⟩]) cells slots → T'.heap = h' → Wr h h' a k (.int y) → own_Arr Z h' a .char n (own_upd f k (.int y)) → own_Goes p e below T' (mkF m pc' Ls st) Q) : own_Goes p e below T (mkF m pc Ls (.int x :: .int j :: .ref a :: st)) Q := by
  subst hp; subst hv
  obtain ⟨cl, A, r1, r2, r3⟩ := A
  obtain ⟨T', h', X', e', W', stp⟩ := stC X hx hZ eT A (own_in hj hk hn r1) (g := mkF m pc Ls (.int x :: .int j :: .ref a :: st)) rfl rfl hd
  subst hk
  exact own_step stp (q T' h' X' e' W' (own_Arr.set A r1 r2 r3 hn W'))
theorem own_stD (X : Stand p l e R s m args below meth c T locs cells slots) (hx : p.tables.exec = Jvm.exec) (hZ : Z.Warmed39 s.vm) (eT : T.heap = h) {a : Addr} {n k : Nat} {f : Nat → Value} (A : own_Arr Z h a .double n f) {j : Int32} {x : UInt64} (hj : ¬ j < 0) (hk : j.toNatClampNeg = k) (hn : k < n)  (hp : pc + 1 = pc') (hd : decode c.code pc = .ok (.dastore, 1))
    (q : ∀ T' h', Stand p l e R s m args below meth c T' (locs ++ [⟨a, k⟩]) cells slots → T'.heap = h' → Wr h h' a k (.double x) → own_Arr Z h' a .double n (own_upd f k (.double x)) → own_Goes p e below T' (mkF m pc' Ls st) Q) : own_Goes p e below T (mkF m pc Ls (.double x :: .int j :: .ref a :: st)) Q := by
  subst hp
  obtain ⟨cl, A, r1, r2, r3⟩ := A
  obtain ⟨T', h', X', e', W', stp⟩ := stD X hx hZ eT A (own_in hj hk hn r1) (g := mkF m pc Ls (.double x :: .int j :: .ref a :: st)) rfl rfl hd
  subst hk
  exact own_step stp (q T' h' X' e' W' (own_Arr.set A r1 r2 r3 hn W'))
theorem own_ldI (X : Stand p l e R s m args below meth c T locs cells slots) (hx : p.tables.exec = Jvm.exec) (hZ : Z.Warmed39 s.vm) (eT : T.heap = h) {a : Addr} {n k : Nat} {f : Nat → Value} (A : own_Arr Z h a .int n f) {j : Int32} (hj : ¬ j < 0) (hk : j.toNatClampNeg = k) (hn : k < n) {v : Value} (hv : f k = v) (hp : pc + 1 = pc') (hd : decode c.code pc = .ok (.iaload, 1)) (q : own_Goes p e below T (mkF m pc' Ls (v :: st)) Q) : own_Goes p e below T (mkF m pc Ls (.int j :: .ref a :: st)) Q := by
  subst hp
  obtain ⟨cl, A, r1, r2, r3⟩ := A
  exact own_step (fun t z => X.iaload hx (j := j) (v := v) (by rw [eT]; exact A.1) (State.isArrayOf_alike hZ.alike A.2.1) A.2.2 (own_in hj hk hn r1) (by rw [hk, r3 k hn, hv]) (g := mkF m pc Ls (.int j :: .ref a :: st)) rfl rfl hd t z) q
theorem own_ldJ (X : Stand p l e R s m args below meth c T locs cells slots) (hx : p.tables.exec = Jvm.exec) (hZ : Z.Warmed39 s.vm) (eT : T.heap = h) {a : Addr} {n k : Nat} {f : Nat → Value} (A : own_Arr Z h a .long n f) {j : Int32} (hj : ¬ j < 0) (hk : j.toNatClampNeg = k) (hn : k < n) {v : Value} (hv : f k = v) (hp : pc + 1 = pc') (hd : decode c.code pc = .ok (.laload, 1)) (q : own_Goes p e below T (mkF m pc' Ls (v :: st)) Q) : own_Goes p e below T (mkF m pc Ls (.int j :: .ref a :: st)) Q := by
  subst hp
  obtain ⟨cl, A, r1, r2, r3⟩ := A
  exact own_step (fun t z => X.laload hx (j := j) (v := v) (by rw [eT]; exact A.1) (State.isArrayOf_alike hZ.alike A.2.1) A.2.2 (own_in hj hk hn r1) (by rw [hk, r3 k hn, hv]) (g := mkF m pc Ls (.int j :: .ref a :: st)) rfl rfl hd t z) q
theorem own_ldB (X : Stand p l e R s m args below meth c T locs cells slots) (hx : p.tables.exec = Jvm.exec) (hZ : Z.Warmed39 s.vm) (eT : T.heap = h) {a : Addr} {n k : Nat} {f : Nat → Value} (A : own_Arr Z h a .byte n f) {j : Int32} (hj : ¬ j < 0) (hk : j.toNatClampNeg = k) (hn : k < n) {v : Value} (hv : f k = v) (hp : pc + 1 = pc') (hd : decode c.code pc = .ok (.baload, 1)) (q : own_Goes p e below T (mkF m pc' Ls (v :: st)) Q) : own_Goes p e below T (mkF m pc Ls (.int j :: .ref a :: st)) Q := by
  subst hp
  obtain ⟨cl, A, r1, r2, r3⟩ := A
  exact own_step (fun t z => X.baloadBytes hx (j := j) (v := v) (by rw [eT]; exact A.1) (State.isArrayOf_alike hZ.alike A.2.1) A.2.2 (own_in hj hk hn r1) (by rw [hk, r3 k hn, hv]) (g := mkF m pc Ls (.int j :: .ref a :: st)) rfl rfl hd t z) q
theorem own_ldC (X : Stand p l e R s m args below meth c T locs cells slots) (hx : p.tables.exec = Jvm.exec) (hZ : Z.Warmed39 s.vm) (eT : T.heap = h) {a : Addr} {n k : Nat} {f : Nat → Value} (A : own_Arr Z h a .char n f) {j : Int32} (hj : ¬ j < 0) (hk : j.toNatClampNeg = k) (hn : k < n) {v : Value} (hv : f k = v) (hp : pc + 1 = pc') (hd : decode c.code pc = .ok (.caload, 1)) (q : own_Goes p e below T (mkF m pc' Ls (v :: st)) Q) : own_Goes p e below T (mkF m pc Ls (.int j :: .ref a :: st)) Q := by
  subst hp
  obtain ⟨cl, A, r1, r2, r3⟩ := A
  exact own_step (fun t z => X.caload hx (j := j) (v := v) (by rw [eT]; exact A.1) (State.isArrayOf_alike hZ.alike A.2.1) A.2.2 (own_in hj hk hn r1) (by rw [hk, r3 k hn, hv]) (g := mkF m pc Ls (.int j :: .ref a :: st)) rfl rfl hd t z) q
theorem own_ldD (X : Stand p l e R s m args below meth c T locs cells slots) (hx : p.tables.exec = Jvm.exec) (hZ : Z.Warmed39 s.vm) (eT : T.heap = h) {a : Addr} {n k : Nat} {f : Nat → Value} (A : own_Arr Z h a .double n f) {j : Int32} (hj : ¬ j < 0) (hk : j.toNatClampNeg = k) (hn : k < n) {v : Value} (hv : f k = v) (hp : pc + 1 = pc') (hd : decode c.code pc = .ok (.daload, 1)) (q : own_Goes p e below T (mkF m pc' Ls (v :: st)) Q) : own_Goes p e below T (mkF m pc Ls (.int j :: .ref a :: st)) Q := by
  subst hp
  obtain ⟨cl, A, r1, r2, r3⟩ := A
  exact own_step (fun t z => X.daload hx (j := j) (v := v) (by rw [eT]; exact A.1) (State.isArrayOf_alike hZ.alike A.2.1) A.2.2 (own_in hj hk hn r1) (by rw [hk, r3 k hn, hv]) (g := mkF m pc Ls (.int j :: .ref a :: st)) rfl rfl hd t z) q
theorem own_alen (X : Stand p l e R s m args below meth c T locs cells slots) (hx : p.tables.exec = Jvm.exec) (hZ : Z.Warmed39 s.vm) (eT : T.heap = h) {a : Addr} {ty : FieldType} {n : Nat} {f : Nat → Value} (A : own_Arr Z h a ty n f) {v : Int32} (hv : n.toInt32 = v) (hp : pc + 1 = pc') (hd : decode c.code pc = .ok (.arraylength, 1)) (q : own_Goes p e below T (mkF m pc' Ls (.int v :: st)) Q) : own_Goes p e below T (mkF m pc Ls (.ref a :: st)) Q := by
  subst hp; subst hv
  obtain ⟨cl, A, r1, r2, r3⟩ := A
  subst r1
  exact own_step (fun t z => X.arraylength hx (cell := cl) (by rw [eT]; exact A.1) (State.isArrayOf_alike hZ.alike A.2.1) (g := mkF m pc Ls (.ref a :: st)) rfl rfl hd t z) q
theorem own_instY (X : Stand p l e R s m args below meth c T locs cells slots) (hx : p.tables.exec = Jvm.exec) (hZ : Z.Warmed39 s.vm) {own K : String} {index : Nat} (hown : s.vm.findClass own = some m.cls) (w : (Jvm.Cond.classLink own index K).before a0 Z = true) (eT : T.heap = h) {a : Addr} (F : Ins Z h a K true) (hp : pc + 3 = pc') (hd : decode c.code pc = .ok (.instanceof index, 3))
    (k : ∀ T', Stand p l e R s m args below meth c T' locs cells slots → T'.heap = h → own_Goes p e below T' (mkF m pc' Ls (.int 1 :: st)) Q) : own_Goes p e below T (mkF m pc Ls (.ref a :: st)) Q := by
  subst hp
  obtain ⟨T', X', e', stp⟩ := instY X hx hZ hown w eT F (g := mkF m pc Ls (.ref a :: st)) rfl rfl hd
  exact own_step stp (k T' X' e')
theorem own_castY (X : Stand p l e R s m args below meth c T locs cells slots) (hx : p.tables.exec = Jvm.exec) (hZ : Z.Warmed39 s.vm) {own K : String} {index : Nat} (hown : s.vm.findClass own = some m.cls) (w : (Jvm.Cond.classLink own index K).before a0 Z = true) (eT : T.heap = h) {a : Addr} (F : Ins Z h a K true) (hp : pc + 3 = pc') (hd : decode c.code pc = .ok (.checkcast index, 3))
    (k : ∀ T', Stand p l e R s m args below meth c T' locs cells slots → T'.heap = h → own_Goes p e below T' (mkF m pc' Ls (.ref a :: st)) Q) : own_Goes p e below T (mkF m pc Ls (.ref a :: st)) Q := by
  subst hp
  obtain ⟨T', X', e', stp⟩ := castY X hx hZ hown w eT F (g := mkF m pc Ls (.ref a :: st)) rfl rfl hd
  exact own_step stp (k T' X' e')
theorem own_instNo (X : Stand p l e R s m args below meth c T locs cells slots) (hx : p.tables.exec = Jvm.exec) (hZ : Z.Warmed39 s.vm) {own K C : String} {index : Nat} (hown : s.vm.findClass own = some m.cls) (w : (Jvm.Cond.classLink own index K).before a0 Z = true) (eT : T.heap = h) {a : Addr} (E : Exa Z h a C) (F : ∃ c t, Z.vm.findClass C = some c ∧ Z.vm.findClass K = some t ∧ Z.vm.assignable c t = false) (hp : pc + 3 = pc') (hd : decode c.code pc = .ok (.instanceof index, 3))
    (k : ∀ T', Stand p l e R s m args below meth c T' locs cells slots → T'.heap = h → own_Goes p e below T' (mkF m pc' Ls (.int 0 :: st)) Q) : own_Goes p e below T (mkF m pc Ls (.ref a :: st)) Q := by
  subst hp
  obtain ⟨T', X', e', stp⟩ := instNo X hx hZ hown w eT E F (g := mkF m pc Ls (.ref a :: st)) rfl rfl hd
  exact own_step stp (k T' X' e')
theorem own_instNull (X : Stand p l e R s m args below meth c T locs cells slots) (hx : p.tables.exec = Jvm.exec) {index : Nat} (hp : pc + 3 = pc') (hd : decode c.code pc = .ok (.instanceof index, 3)) (k : own_Goes p e below T (mkF m pc' Ls (.int 0 :: st)) Q) : own_Goes p e below T (mkF m pc Ls (.null :: st)) Q := by
  subst hp; exact own_step (fun t q => X.instanceofNull hx (g := mkF m pc Ls (.null :: st)) rfl rfl hd t q) k
theorem own_dup2 (X : Stand p l e R s m args below meth c T locs cells slots) (hx : p.tables.exec = Jvm.exec) {x y : Value} (hp : pc + 1 = pc') (hd : decode c.code pc = .ok (.dup2, 1)) (hc : x.category = 1) (hc' : y.category = 1) (k : own_Goes p e below T (mkF m pc' Ls (x :: y :: x :: y :: st)) Q) : own_Goes p e below T (mkF m pc Ls (x :: y :: st)) Q := by
  subst hp; exact own_step (fun _ q => XT.dup2 X.here hx rfl hd rfl hc hc' q) k
theorem own_ifnullT (X : Stand p l e R s m args below meth c T locs cells slots) (hx : p.tables.exec = Jvm.exec)  {o : Int} (hd : decode c.code pc = .ok (.ifnull o, 3)) (ho : 0 ≤ (pc : Int) + o) (hp : ((pc : Int) + o).toNat = pc') (k : own_Goes p e below T (mkF m pc' Ls st) Q) : own_Goes p e below T (mkF m pc Ls (.null :: st)) Q := own_step (fun _ q => XS.ifnullYes X.here hx rfl (pc0 := pc) (pc' := pc') rfl hd rfl ho hp q) k
theorem own_ifnullF (X : Stand p l e R s m args below meth c T locs cells slots) (hx : p.tables.exec = Jvm.exec) {b : Addr} {o : Int} (hp : pc + 3 = pc') (hd : decode c.code pc = .ok (.ifnull o, 3)) (k : own_Goes p e below T (mkF m pc' Ls st) Q) : own_Goes p e below T (mkF m pc Ls (.ref b :: st)) Q := by
  subst hp; exact own_step (fun _ q => XS.ifnullNo X.here hx rfl hd rfl q) k
theorem own_ifnonnullT (X : Stand p l e R s m args below meth c T locs cells slots) (hx : p.tables.exec = Jvm.exec) {b : Addr} {o : Int} (hd : decode c.code pc = .ok (.ifnonnull o, 3)) (ho : 0 ≤ (pc : Int) + o) (hp : ((pc : Int) + o).toNat = pc') (k : own_Goes p e below T (mkF m pc' Ls st) Q) : own_Goes p e below T (mkF m pc Ls (.ref b :: st)) Q := own_step (fun _ q => XT.ifnonnullYes X.here hx rfl (pc0 := pc) (pc' := pc') rfl hd rfl ho hp q) k
theorem own_ifnonnullF (X : Stand p l e R s m args below meth c T locs cells slots) (hx : p.tables.exec = Jvm.exec)  {o : Int} (hp : pc + 3 = pc') (hd : decode c.code pc = .ok (.ifnonnull o, 3)) (k : own_Goes p e below T (mkF m pc' Ls st) Q) : own_Goes p e below T (mkF m pc Ls (.null :: st)) Q := by
  subst hp; exact own_step (fun _ q => XT.ifnonnullNo X.here hx rfl hd rfl q) k
theorem own_absD (X : Stand p l e R s m args below meth c T locs cells slots) (hx : p.tables.exec = Jvm.exec) (hZ : Z.Warmed39 s.vm) {own : String} {index : Nat} (hown : s.vm.findClass own = some m.cls) (w1 : (Jvm.Cond.methodLink own index Jvm.Free.Fl.Abs.absDN).before a0 Z = true) (w2 : (Jvm.Cond.static Jvm.Free.Fl.Abs.absDN).before a0 Z = true) (w3 : (Jvm.Cond.initialized "java/lang/Math").before a0 Z = true) (w4 : (Jvm.Cond.code Jvm.Free.Fl.Abs.absDN Jvm.Free.Fl.Abs.absDCode 2 (some .double)).before a0 Z = true) (eT : T.heap = h) {x v : UInt64} (hn : Jvm.Free.Fl.NoNaN64 x) (hv : (x &&& 0x7fffffffffffffff) = v) (hsize : Ls.size = c.maxLocals) (hf : 1 ≤ R.frames) {W : Nat} (hW : (st.map fun v => v.category).sum ≤ W) (hl : W + 13 ≤ R.locals) (hc : cells ≤ R.cells) (hs : slots ≤ R.slots) (hp : pc + 3 = pc') (hd : decode c.code pc = .ok (.invokestatic index, 3))
    (k : ∀ T', Stand p l e R s m args below meth c T' locs cells slots → T'.heap = h → own_Goes p e below T' (mkF m pc' Ls (.double v :: st)) Q) : own_Goes p e below T (mkF m pc Ls (.double x :: st)) Q := by
  subst hp
  obtain ⟨T', X', e', stp⟩ := natS X hx hZ (y := Jvm.Free.Fl.Abs.absDN) hown w1 w2 w3 w4 (by decide) eT (W := W) (fun hcode => Jvm.Free.Fl.Abs.absD_pays (W := W) x hcode hf hl) (g := mkF m pc Ls (.double x :: st)) rfl hsize (argsL := [.double x]) (rest := st) (fun sig q => by rw [show parseMethodDescriptor Jvm.Free.Fl.Abs.absDN.desc = some ⟨[.double], some .double⟩ from by decide +kernel] at q; rw [← Option.some.inj q]; rfl) rfl (by show 2 * 0 + _ ≤ _; omega) hd hc hs ⟨rfl, hn⟩ (congrArg Value.double hv)
  exact own_step stp (k T' X' e')
theorem own_fitR {v : Value} {C : String} (hv : v.isRef = true) : fits (.object C) v = true := by cases v <;> simp_all [fits, Value.isRef]
end Own
/-! 2. THE BODIES -/
open Jvm.Free.Fl Jvm.FP.Core
def own_DB (f : Nat → Value) (n B : Nat) : Prop := ∀ j, j < n → ∃ x i, f j = .double x ∧ DInt i x ∧ i.natAbs ≤ B
def own_DA (f : Nat → Value) (n : Nat) (g : Nat → Int) : Prop := ∀ j, j < n → ∃ x, f j = .double x ∧ DInt (g j) x
def own_DV (f : Nat → Value) (w : Nat → Int64) : Prop := ∀ j, j < 4 → f j = .double (FP.l2d (w j)) ∧ (w j).toInt.natAbs ≤ 2 ^ 31
def own_labs (x : Int64) : Int64 := if x < 0 then -x else x
def own_updG (g : Nat → Int) (k : Nat) (i : Int) : Nat → Int := fun j => if j = k then i else g j
def own_addG (g : Nat → Int) (w : Nat → Int64) (m : Nat) : Nat → Int := fun j => if j < m then g j + (own_labs (w j)).toInt else g j
def own_sum (g : Nat → Int) : Nat → Int
  | 0 => 0
  | k + 1 => own_sum g k + g k
def own_zf : Nat → Int := fun _ => 0
theorem own_nnI {i : Int} {a : UInt64} (h : DInt i a) : NoNaN64 a := by
  refine noNaN64_no.mpr ((notNaN_iff a).mpr fun q => ?_)
  unfold DInt at h; rw [q] at h; exact h
theorem own_addI {i j k : Int} {a b : UInt64} (ha : DInt i a) (hb : DInt j b) (hk : i + j = k) (h : k.natAbs ≤ 2 ^ 53) : DInt k (FP.dadd a b) ∧ NoNaN64 (FP.dadd a b) := by
  subst hk
  have q : DInt (i + j) (FP.dadd a b) := dadd_int ha hb h
  exact ⟨q, own_nnI q⟩
theorem own_subI {i j k : Int} {a b : UInt64} (ha : DInt i a) (hb : DInt j b) (hk : i - j = k) (h : k.natAbs ≤ 2 ^ 53) : DInt k (FP.dsub a b) ∧ NoNaN64 (FP.dsub a b) := by
  subst hk
  have q : DInt (i - j) (FP.dsub a b) := dsub_int ha hb h
  exact ⟨q, own_nnI q⟩
theorem own_vI {x : Int64} (h : x.toInt.natAbs ≤ 2 ^ 31) : DInt x.toInt (FP.l2d x) := l2d_int (Nat.le_trans h (by decide))
theorem own_labsI {x : Int64} (h : x.toInt.natAbs ≤ 2 ^ 31) : (own_labs x).toInt = x.toInt.natAbs ∧ (FP.l2d x &&& 0x7fffffffffffffff) = FP.l2d (own_labs x) ∧ DInt (own_labs x).toInt (FP.l2d (own_labs x)) := by
  have e : (own_labs x).toInt = x.toInt.natAbs := by
    unfold own_labs
    by_cases c : x < 0
    · rw [if_pos c]; rw [Int64.lt_iff_toInt_lt, show (0 : Int64).toInt = 0 from rfl] at c
      rw [Jvm.Kit.i64_neg (by omega)]; omega
    · rw [if_neg c]; rw [Int64.lt_iff_toInt_lt, show (0 : Int64).toInt = 0 from rfl] at c; omega
  refine ⟨e, ?_, own_vI (by omega)⟩
  unfold own_labs
  by_cases c : x < 0
  · rw [if_pos c]; exact abs_n ⟨by omega, by omega⟩ c
  · rw [if_neg c]; exact abs_w c
theorem own_d0 : DInt 0 (0 : UInt64) := by
  have : val64 (0 : UInt64) = .fin false 0 b64.qmin := by decide +kernel
  unfold DInt; rw [this]; show signed false (0 * 2 ^ b64.qmin.toNat) = 0 * _
  rw [Nat.zero_mul]; simp [signed]
theorem own_dc0 : DInt 0 FP.dconst0 := own_d0
theorem own_DB.mono {f : Nat → Value} {n B B' : Nat} (h : own_DB f n B) (q : B ≤ B') : own_DB f n B' := fun j hj => by
  obtain ⟨x, i, a, b, d⟩ := h j hj; exact ⟨x, i, a, b, Nat.le_trans d q⟩
theorem own_DB.upd {f : Nat → Value} {n B : Nat} (h : own_DB f n B) (k : Nat) {i : Int} {x : UInt64} (hx : DInt i x) (hi : i.natAbs ≤ B) : own_DB (own_upd f k (.double x)) n B := fun j hj => by
  by_cases q : j = k
  · exact ⟨x, i, by unfold own_upd; rw [if_pos q], hx, hi⟩
  · obtain ⟨y, i', a, b, d⟩ := h j hj; exact ⟨y, i', by unfold own_upd; rw [if_neg q]; exact a, b, d⟩
theorem own_DA.upd {f : Nat → Value} {n : Nat} {g : Nat → Int} (h : own_DA f n g) (k : Nat) {i : Int} {x : UInt64} (hx : DInt i x) : own_DA (own_upd f k (.double x)) n (own_updG g k i) := fun j hj => by
  by_cases q : j = k
  · exact ⟨x, by unfold own_upd; rw [if_pos q], by unfold own_updG; rw [if_pos q]; exact hx⟩
  · obtain ⟨y, a, b⟩ := h j hj; exact ⟨y, by unfold own_upd; rw [if_neg q]; exact a, by unfold own_updG; rw [if_neg q]; exact b⟩
theorem own_DA.congr {f : Nat → Value} {n : Nat} {g g' : Nat → Int} (h : own_DA f n g) (q : ∀ j, g j = g' j) : own_DA f n g' := fun j hj => by
  obtain ⟨y, a, b⟩ := h j hj; exact ⟨y, a, q j ▸ b⟩
theorem own_DA0 (n : Nat) : own_DA (fun _ => .double (0 : UInt64)) n own_zf := fun j hj => ⟨0, rfl, own_d0⟩
theorem own_DB0 (n : Nat) : own_DB (fun _ => .double (0 : UInt64)) n 0 := fun j hj => ⟨0, 0, rfl, own_d0, Nat.le_refl _⟩
def own_gB (g : Nat → Int) (B : Int) : Prop := ∀ j, 0 ≤ g j ∧ g j ≤ B
theorem own_gB0 : own_gB own_zf 0 := fun j => ⟨Int.le_refl _, Int.le_refl _⟩
theorem own_sumB {g : Nat → Int} (h : own_gB g (2 ^ 40)) : ∀ k, 0 ≤ own_sum g k ∧ own_sum g k ≤ k * 2 ^ 40
  | 0 => ⟨Int.le_refl _, by simp [own_sum]⟩
  | k + 1 => by
    have a := own_sumB h k
    have b := h k
    show 0 ≤ own_sum g k + g k ∧ own_sum g k + g k ≤ ((k + 1 : Nat) : Int) * 2 ^ 40
    omega
theorem own_sumN {g : Nat → Int} (h : own_gB g (2 ^ 40)) {k : Nat} (hk : k ≤ 4) : (own_sum g k).natAbs ≤ 2 ^ 53 := by
  have := own_sumB h k; omega
theorem own_addGB {g : Nat → Int} {B : Int} {w : Nat → Int64} (h : own_gB g B) (hw : ∀ j, j < 4 → (w j).toInt.natAbs ≤ 2 ^ 31) {m : Nat} (hm : m ≤ 4) : own_gB (own_addG g w m) (B + 2 ^ 31) := fun j => by
  have a := h j
  unfold own_addG
  by_cases q : j < m
  · have b := hw j (by omega)
    rw [if_pos q, (own_labsI b).1]; omega
  · rw [if_neg q]; omega
theorem own_gB.mono {g : Nat → Int} {B B' : Int} (h : own_gB g B) (q : B ≤ B') : own_gB g B' := fun j => ⟨(h j).1, Int.le_trans (h j).2 q⟩
/-! the law's own reference -/
def own_w4 (a b c d : Int32) : Nat → Int64
  | 0 => a.toInt64
  | 1 => b.toInt64
  | 2 => c.toInt64
  | _ => d.toInt64
theorem own_i31 (x : Int32) : (x.toInt64).toInt.natAbs ≤ 2 ^ 31 := by
  have h1 := Int32.toInt_lt x
  have h2 := Int32.le_toInt x
  rw [Int32.toInt_toInt64]; omega
theorem own_w4B (a b c d : Int32) (j : Nat) (hj : j < 4) : (own_w4 a b c d j).toInt.natAbs ≤ 2 ^ 31 := by
  rcases j with _ | _ | _ | _ | j
  · exact own_i31 a
  · exact own_i31 b
  · exact own_i31 c
  · exact own_i31 d
  · omega
def own_part (x q n : Int32) : Int64 := if q < n then own_labs x.toInt64 else 0
def own_upTo (a b c d n : Int32) : Int64 := ((own_part a 0 n + own_part b 1 n) + own_part c 2 n) + own_part d 3 n
def own_cnt (n : Int32) (m : Nat) : Prop := (n = 0 ∧ m = 0) ∨ (n = 1 ∧ m = 1) ∨ (n = 2 ∧ m = 2) ∨ (n = 3 ∧ m = 3) ∨ (n = 4 ∧ m = 4)
theorem own_add3 {x y : Int64} {i j : Int} (hx : x.toInt = i) (hy : y.toInt = j) (h : 0 ≤ i ∧ i ≤ 2 ^ 50) (h' : 0 ≤ j ∧ j ≤ 2 ^ 50) : (x + y).toInt = i + j := by
  rw [Jvm.Kit.i64_add (by rw [hx, hy]; omega) (by rw [hx, hy]; omega), hx, hy]
theorem own_upI (a b c d : Int32) {n : Int32} {m : Nat} (h : own_cnt n m) : (own_upTo a b c d n).toInt = own_sum (own_addG own_zf (own_w4 a b c d) m) 4 := by
  have A := own_labsI (own_i31 a)
  have B := own_labsI (own_i31 b)
  have C := own_labsI (own_i31 c)
  have D := own_labsI (own_i31 d)
  have ha := own_i31 a
  have hb := own_i31 b
  have hc := own_i31 c
  have hd := own_i31 d
  have z : (0 : Int64).toInt = 0 := rfl
  have P : ∀ (x q : Int32) (k : Nat), k = q.toInt.toNat → 0 ≤ q.toInt → (own_part x q n).toInt = if k < m then (own_labs x.toInt64).toInt else 0 := by
    intro x q k hk hq
    unfold own_part
    have : q < n ↔ k < m := by
      rw [Int32.lt_iff_toInt_lt]
      rcases h with ⟨rfl, rfl⟩ | ⟨rfl, rfl⟩ | ⟨rfl, rfl⟩ | ⟨rfl, rfl⟩ | ⟨rfl, rfl⟩
      · have : (0 : Int32).toInt = 0 := rfl
        omega
      · have : (1 : Int32).toInt = 1 := rfl
        omega
      · have : (2 : Int32).toInt = 2 := rfl
        omega
      · have : (3 : Int32).toInt = 3 := rfl
        omega
      · have : (4 : Int32).toInt = 4 := rfl
        omega
    by_cases cc : k < m
    · rw [if_pos (this.mpr cc), if_pos cc]
    · rw [if_neg (fun q => cc (this.mp q)), if_neg cc]; rfl
  have p0 := P a 0 0 rfl (by decide)
  have p1 := P b 1 1 rfl (by decide)
  have p2 := P c 2 2 rfl (by decide)
  have p3 := P d 3 3 rfl (by decide)
  have b0 : 0 ≤ (if 0 < m then (own_labs a.toInt64).toInt else 0) ∧ (if 0 < m then (own_labs a.toInt64).toInt else 0) ≤ 2 ^ 31 := by split <;> omega
  have b1 : 0 ≤ (if 1 < m then (own_labs b.toInt64).toInt else 0) ∧ (if 1 < m then (own_labs b.toInt64).toInt else 0) ≤ 2 ^ 31 := by split <;> omega
  have b2 : 0 ≤ (if 2 < m then (own_labs c.toInt64).toInt else 0) ∧ (if 2 < m then (own_labs c.toInt64).toInt else 0) ≤ 2 ^ 31 := by split <;> omega
  have b3 : 0 ≤ (if 3 < m then (own_labs d.toInt64).toInt else 0) ∧ (if 3 < m then (own_labs d.toInt64).toInt else 0) ≤ 2 ^ 31 := by split <;> omega
  unfold own_upTo
  rw [own_add3 (own_add3 (own_add3 p0 p1 (by omega) (by omega)) p2 (by omega) (by omega)) p3 (by omega) (by omega)]
  show _ = ((((0 : Int) + own_addG own_zf (own_w4 a b c d) m 0) + own_addG own_zf (own_w4 a b c d) m 1) + own_addG own_zf (own_w4 a b c d) m 2) + own_addG own_zf (own_w4 a b c d) m 3
  unfold own_addG own_zf
  simp only [Int.zero_add]
  rfl
theorem own_sumG (g : Nat → Int) (w : Nat → Int64) (m : Nat) : ∀ n, own_sum (own_addG g w m) n = own_sum g n + own_sum (own_addG own_zf w m) n
  | 0 => rfl
  | k + 1 => by
    show own_sum (own_addG g w m) k + own_addG g w m k = (own_sum g k + g k) + (own_sum (own_addG own_zf w m) k + own_addG own_zf w m k)
    rw [own_sumG g w m k]
    unfold own_addG own_zf
    by_cases q : k < m
    · simp only [if_pos q]; omega
    · simp only [if_neg q]; omega
theorem own_sumCut (w : Nat → Int64) {m n : Nat} (h : m ≤ n) : ∀ d, own_sum (own_addG own_zf w m) (n + d) = own_sum (own_addG own_zf w m) n
  | 0 => rfl
  | d + 1 => by
    show own_sum (own_addG own_zf w m) (n + d) + own_addG own_zf w m (n + d) = _
    rw [own_sumCut w h d]
    unfold own_addG own_zf
    rw [if_neg (by omega)]; omega
theorem own_up (a b c d : Int32) {n : Int32} {m N : Nat} (h : own_cnt n m) (hN : m ≤ N) (hN4 : N ≤ 4) : (∀ g, own_sum (own_addG g (own_w4 a b c d) m) N = own_sum g N + (own_upTo a b c d n).toInt) ∧ 0 ≤ (own_upTo a b c d n).toInt ∧ (own_upTo a b c d n).toInt ≤ 2 ^ 42 := by
  have e := own_upI a b c d h
  have q := own_sumCut (own_w4 a b c d) hN (4 - N)
  rw [show N + (4 - N) = 4 by omega] at q
  have hm : m ≤ 4 := by omega
  have bb := own_sumB ((own_addGB own_gB0 (own_w4B a b c d) hm).mono (by decide)) 4
  refine ⟨fun g => by rw [own_sumG, e, q], ?_, ?_⟩ <;> rw [e] <;> omega
theorem own_sum0 : ∀ n, own_sum own_zf n = 0
  | 0 => rfl
  | k + 1 => by show own_sum own_zf k + 0 = 0; rw [own_sum0 k]; rfl
theorem own_eqv {r : UInt64} {i : Int} {m : Int64} (hr : DInt i r) (hm : m.toInt = i) (hb : i.natAbs ≤ 2 ^ 53) (k : CmpOp) : cmpValue (FP.dcmp r (FP.l2d m)) k = 0 := by
  have q : DInt i (FP.l2d m) := hm ▸ l2d_int (by rw [hm]; exact hb)
  have := dcmp_int hr q
  rw [show FP.dcmp r (FP.l2d m) = _ from this, compare_self_int]; rfl
theorem own_eq0 (k : CmpOp) : cmpValue (FP.dcmp FP.dconst0 FP.dconst0) k = 0 := dcmpV_self (own_nnI own_dc0) k
/-! the selector -/
theorem own_three (x : Int32) : ∃ n : Nat, ((1 : Int32) + (x &&& (3 : Int32))).toInt = n ∧ (n = 1 ∨ n = 2 ∨ n = 3 ∨ n = 4) := by
  have e1 : (x &&& 3).toInt = x.toInt % 2 ^ 2 := Jvm.Kit.i32_mask x 3 (k := 2) (by decide) (by decide)
  have e2 : (1 : Int32).toInt = 1 := rfl
  refine ⟨((1 : Int32) + (x &&& (3 : Int32))).toInt.toNat, ?_, ?_⟩ <;> rw [Jvm.Kit.i32_add (by omega) (by omega)] <;> omega
theorem own_nn3 {z : Int32} {n : Nat} (h : z.toInt = n) (hn : n = 1 ∨ n = 2 ∨ n = 3 ∨ n = 4) : ¬ z < 0 ∧ z.toNatClampNeg = n ∧ n.toInt32 = z ∧ n ≤ 4 ∧ z ≠ 0 ∧ (z + (1 : Int32)).toInt = n + 1 ∧ (z + (1 : Int32)) ≠ 0 := by
  have e2 : (1 : Int32).toInt = 1 := rfl
  have e0 : (0 : Int32).toInt = 0 := rfl
  have s : (z + (1 : Int32)).toInt = n + 1 := by rw [Jvm.Kit.i32_add (by omega) (by omega)]; omega
  refine ⟨by rw [Int32.lt_iff_toInt_lt]; omega, ?_, ?_, by omega, ?_, s, ?_⟩
  · show z.toInt.toNat = n; omega
  · apply Int32.toInt_inj.mp; rw [h]; rcases hn with rfl | rfl | rfl | rfl <;> rfl
  · intro q; rw [q] at h; omega
  · intro q; rw [q] at s; omega
theorem own_kk {x z : Int32} {n : Nat} (h : z.toInt = n) (hn : n = 1 ∨ n = 2 ∨ n = 3 ∨ n = 4) : ∃ k, ¬ ((x &&& (3 : Int32)) % z) < 0 ∧ ((x &&& (3 : Int32)) % z).toNatClampNeg = k ∧ k < n := by
  have e1 : (x &&& 3).toInt = x.toInt % 2 ^ 2 := Jvm.Kit.i32_mask x 3 (k := 2) (by decide) (by decide)
  have q : ((x &&& 3) % z).toInt = (x &&& 3).toInt % z.toInt := Jvm.Kit.i32_rem_nonneg (by omega)
  have b0 := Int.emod_nonneg (x &&& 3).toInt (show z.toInt ≠ 0 by omega)
  have b1 := Int.emod_lt_of_pos (x &&& 3).toInt (show 0 < z.toInt by omega)
  refine ⟨_, ?_, rfl, ?_⟩
  · rw [Int32.lt_iff_toInt_lt, q, show (0 : Int32).toInt = 0 from rfl]; omega
  · show ((x &&& 3) % z).toInt.toNat < n; rw [q]; omega
theorem own_cc {x z : Int32} {n : Nat} (h : z.toInt = n + 1) (hn : n ≤ 4) : ∃ m, own_cnt ((x &&& (7 : Int32)) % z) m ∧ m ≤ n := by
  have e1 : (x &&& 7).toInt = x.toInt % 2 ^ 3 := Jvm.Kit.i32_mask x 7 (k := 3) (by decide) (by decide)
  have q : ((x &&& 7) % z).toInt = (x &&& 7).toInt % z.toInt := Jvm.Kit.i32_rem_nonneg (by omega)
  have b0 := Int.emod_nonneg (x &&& 7).toInt (show z.toInt ≠ 0 by omega)
  have b1 := Int.emod_lt_of_pos (x &&& 7).toInt (show 0 < z.toInt by omega)
  refine ⟨((x &&& 7) % z).toInt.toNat, ?_, by rw [q]; omega⟩
  generalize (x &&& 7) % z = y at q ⊢
  have : y.toInt = 0 ∨ y.toInt = 1 ∨ y.toInt = 2 ∨ y.toInt = 3 ∨ y.toInt = 4 := by omega
  rcases this with r | r | r | r | r
  · exact Or.inl ⟨Int32.toInt_inj.mp r, by omega⟩
  · exact Or.inr (Or.inl ⟨Int32.toInt_inj.mp r, by omega⟩)
  · exact Or.inr (Or.inr (Or.inl ⟨Int32.toInt_inj.mp r, by omega⟩))
  · exact Or.inr (Or.inr (Or.inr (Or.inl ⟨Int32.toInt_inj.mp r, by omega⟩)))
  · exact Or.inr (Or.inr (Or.inr (Or.inr ⟨Int32.toInt_inj.mp r, by omega⟩)))
def own_fl (x : Int32) : Int32 := if x = 0 then 0 else 1
theorem own_fI (x : Int32) : DInt x.toInt (FP.i2d x) ∧ x.toInt.natAbs ≤ 2 ^ 31 := by
  have h1 := Int32.toInt_lt x
  have h2 := Int32.le_toInt x
  exact ⟨i2d_int x, by omega⟩
theorem own_m10 {x : Int64} (h : 0 ≤ x.toInt) (h' : x.toInt ≤ 2 ^ 42) : (x + (0 : Int64)).toInt = x.toInt := by
  rw [own_add3 (i := x.toInt) (j := 0) rfl rfl (by omega) (by omega)]; omega
theorem own_m01 {x : Int64} (h : 0 ≤ x.toInt) (h' : x.toInt ≤ 2 ^ 42) : ((0 : Int64) + x).toInt = x.toInt := by
  rw [own_add3 (j := x.toInt) (i := 0) rfl rfl (by omega) (by omega)]; omega
theorem own_m11 {x y : Int64} (h : 0 ≤ x.toInt) (h' : x.toInt ≤ 2 ^ 42) (g : 0 ≤ y.toInt) (g' : y.toInt ≤ 2 ^ 42) : (x + y).toInt = x.toInt + y.toInt := own_add3 rfl rfl (by omega) (by omega)
theorem ef_rm_absJ (m : MethodId) (p1 : Int64) : entryFrame m #[(.long p1)] 2 = mkF m 0 #[.val (.long p1), .second] [] := by first | (simp [entryFrame, mkF, argsToLocals, Value.category]; done) | rfl
def K_rm_absJ  (Z : State) (h0 : Heap) (n0 : Nat) (p1 : Int64) (v : Option Value) (h : Heap) (L : List Loc) : Prop := v = some (.long (own_labs p1)) ∧ Fr n0 L ∧ h = h0
theorem d_jdk_29_method_61_code_0 : decode jdk_29_method_61_code 0 = .ok (.lload_n 0, 1) := by decide +kernel
theorem d_jdk_29_method_61_code_1 : decode jdk_29_method_61_code 1 = .ok (.lconst 0, 1) := by decide +kernel
theorem d_jdk_29_method_61_code_2 : decode jdk_29_method_61_code 2 = .ok (.lcmp, 1) := by decide +kernel
theorem d_jdk_29_method_61_code_3 : decode jdk_29_method_61_code 3 = .ok (.ifCond .ge 8, 3) := by decide +kernel
theorem d_jdk_29_method_61_code_6 : decode jdk_29_method_61_code 6 = .ok (.lload_n 0, 1) := by decide +kernel
theorem d_jdk_29_method_61_code_7 : decode jdk_29_method_61_code 7 = .ok (.lneg, 1) := by decide +kernel
theorem d_jdk_29_method_61_code_8 : decode jdk_29_method_61_code 8 = .ok (.goto 4, 3) := by decide +kernel
theorem d_jdk_29_method_61_code_12 : decode jdk_29_method_61_code 12 = .ok (.lreturn, 1) := by decide +kernel
theorem d_jdk_29_method_61_code_11 : decode jdk_29_method_61_code 11 = .ok (.lload_n 0, 1) := by decide +kernel
theorem pf_java_lang_Math_abs__J_J : plainFor (⟨"java/lang/Math", "abs", "(J)J"⟩ : MethodName) = true := by decide +kernel
set_option maxRecDepth 65536 in
set_option maxHeartbeats 40000000 in
theorem rm_absJ (l : Launch) (Z : State) (a0 : Array Value) (hw : ∀ d ∈ tables_1, d.before a0 Z = true) (ws : List Jvm.Cond)  (p1 : Int64) (h0 : Heap) (n0 : Nat) (Z0 : n0 ≤ h0.size) :
    MetFree l (⟨"java/lang/Math", "abs", "(J)J"⟩ : MethodName) (head1 (Jvm.Cond.code (⟨"java/lang/Math", "abs", "(J)J"⟩ : MethodName) jdk_29_method_61_code 2 (some .long) :: ws) ({ frames := 0, cells := 0, slots := 0, locals := 0 } : Room)) (fun a U => a = #[(.long p1)] ∧ Z.Warmed39 U.vm ∧ U.heap = h0) (fun _ _ _ _ _ => True) (fun _ U o U' => ∃ v L, o = .returned v ∧ (K_rm_absJ  Z h0 n0 p1) v U'.heap L ∧ FrameEnd U o U' L ({ frames := 0, cells := 0, slots := 0, locals := 0 } : Room).cells ({ frames := 0, cells := 0, slots := 0, locals := 0 } : Room).slots) := by
  refine own_body pf_java_lang_Math_abs__J_J ?_
  intro p e s m below meth c s₁ hx hby hml hown hnm hret hlk hZ X0 e0
  have hown : s.vm.findClass "java/lang/Math" = some m.cls := hown
  have N0 := Fr.nil n0
  rw [ef_rm_absJ m p1]
  refine own_lloadN X0 hx (pc' := 1) rfl (hb hby d_jdk_29_method_61_code_0) rfl ?_
  refine own_lconst X0 hx (v := (0 : Int64)) (pc' := 2) rfl (hb hby d_jdk_29_method_61_code_1) rfl ?_
  refine own_lcmp X0 hx (pc' := 3) rfl (hb hby d_jdk_29_method_61_code_2) ?_
  by_cases c3_1 : p1 < (0 : Int64)
  · refine own_ifF X0 hx (pc' := 6) rfl (hb hby d_jdk_29_method_61_code_3) (XT.ll_ge_f c3_1) ?_
    refine own_lloadN X0 hx (pc' := 7) rfl (hb hby d_jdk_29_method_61_code_6) rfl ?_
    refine own_lneg X0 hx (v := (-p1)) (pc' := 8) rfl (hb hby d_jdk_29_method_61_code_7) rfl ?_
    refine own_goto X0 hx (pc' := 12) (hb hby d_jdk_29_method_61_code_8) (by decide) (by decide) ?_
    refine own_lret X0 hx hlk hret (hb hby d_jdk_29_method_61_code_12) (by decide) (by decide) ?_
    rw [e0]
    exact ⟨by first | (simp only [own_labs, if_pos c3_1]; done) | (simp only [own_labs, if_pos c3_1]; rfl), N0, rfl⟩
  · refine own_ifT X0 hx (pc' := 11) (hb hby d_jdk_29_method_61_code_3) (XT.ll_ge_t c3_1) (by decide) (by decide) ?_
    refine own_lloadN X0 hx (pc' := 12) rfl (hb hby d_jdk_29_method_61_code_11) rfl ?_
    refine own_lret X0 hx hlk hret (hb hby d_jdk_29_method_61_code_12) (by decide) (by decide) ?_
    rw [e0]
    exact ⟨by first | (simp only [own_labs, if_neg c3_1]; done) | (simp only [own_labs, if_neg c3_1]; rfl), N0, rfl⟩
theorem ef_rm_part (m : MethodId) (p1 : Int32) (p2 : Int32) (p3 : Int32) : entryFrame m #[(.int p1), (.int p2), (.int p3)] 3 = mkF m 0 #[.val (.int p1), .val (.int p2), .val (.int p3)] [] := by first | (simp [entryFrame, mkF, argsToLocals, Value.category]; done) | rfl
def K_rm_part  (Z : State) (h0 : Heap) (n0 : Nat) (p1 : Int32) (p2 : Int32) (p3 : Int32) (v : Option Value) (h : Heap) (L : List Loc) : Prop := v = some (.long (own_part p1 p2 p3)) ∧ Fr n0 L ∧ h = h0
theorem d_method_3_code_0 : decode method_3_code 0 = .ok (.iload_n 1, 1) := by decide +kernel
theorem d_method_3_code_1 : decode method_3_code 1 = .ok (.iload_n 2, 1) := by decide +kernel
theorem d_method_3_code_2 : decode method_3_code 2 = .ok (.if_icmp .ge 11, 3) := by decide +kernel
theorem d_method_3_code_5 : decode method_3_code 5 = .ok (.iload_n 0, 1) := by decide +kernel
theorem d_method_3_code_6 : decode method_3_code 6 = .ok (.i2l, 1) := by decide +kernel
theorem d_method_3_code_7 : decode method_3_code 7 = .ok (.invokestatic 29, 3) := by decide +kernel
theorem pd__J_J : parseMethodDescriptor "(J)J" = some ⟨[.long], some .long⟩ := by decide +kernel
theorem d_method_3_code_10 : decode method_3_code 10 = .ok (.goto 4, 3) := by decide +kernel
theorem d_method_3_code_14 : decode method_3_code 14 = .ok (.lreturn, 1) := by decide +kernel
theorem d_method_3_code_13 : decode method_3_code 13 = .ok (.lconst 0, 1) := by decide +kernel
theorem pn_com_example_ferrule_ferrule_matrix_CompensatedSumsMagnitudePinLaw : plainName "com/example/ferrule/ferrule/matrix/CompensatedSumsMagnitudePinLaw" = true := by first | (simp [plainName, overriddenIn]; done) | decide +kernel
set_option maxRecDepth 65536 in
set_option maxHeartbeats 40000000 in
theorem rm_part (l : Launch) (Z : State) (a0 : Array Value) (hw : ∀ d ∈ tables_1, d.before a0 Z = true) (ws : List Jvm.Cond)  (p1 : Int32) (p2 : Int32) (p3 : Int32) (h0 : Heap) (n0 : Nat) (Z0 : n0 ≤ h0.size) :
    MetFree l (⟨"com/example/ferrule/ferrule/matrix/CompensatedSumsMagnitudePinLaw", "part", "(III)J"⟩ : MethodName) (head1 (Jvm.Cond.code (⟨"com/example/ferrule/ferrule/matrix/CompensatedSumsMagnitudePinLaw", "part", "(III)J"⟩ : MethodName) method_3_code 3 (some .long) :: ws) ({ frames := 1, cells := 0, slots := 0, locals := 13 } : Room)) (fun a U => a = #[(.int p1), (.int p2), (.int p3)] ∧ Z.Warmed39 U.vm ∧ U.heap = h0) (fun _ _ _ _ _ => True) (fun _ U o U' => ∃ v L, o = .returned v ∧ (K_rm_part  Z h0 n0 p1 p2 p3) v U'.heap L ∧ FrameEnd U o U' L ({ frames := 1, cells := 0, slots := 0, locals := 13 } : Room).cells ({ frames := 1, cells := 0, slots := 0, locals := 13 } : Room).slots) := by
  refine own_body (plainFor_of_name pn_com_example_ferrule_ferrule_matrix_CompensatedSumsMagnitudePinLaw) ?_
  intro p e s m below meth c s₁ hx hby hml hown hnm hret hlk hZ X0 e0
  have hown : s.vm.findClass "com/example/ferrule/ferrule/matrix/CompensatedSumsMagnitudePinLaw" = some m.cls := hown
  have N0 := Fr.nil n0
  rw [ef_rm_part m p1 p2 p3]
  refine own_iloadN X0 hx (pc' := 1) rfl (hb hby d_method_3_code_0) rfl ?_
  refine own_iloadN X0 hx (pc' := 2) rfl (hb hby d_method_3_code_1) rfl ?_
  by_cases c2_1 : p2 < p3
  · refine own_icmpF X0 hx (pc' := 5) rfl (hb hby d_method_3_code_2) (XT.ii_ge_f c2_1) ?_
    refine own_iloadN X0 hx (pc' := 6) rfl (hb hby d_method_3_code_5) rfl ?_
    refine own_i2l X0 hx (v := p1.toInt64) (pc' := 7) rfl (hb hby d_method_3_code_6) rfl ?_
    refine own_callS X0 hx hZ (y := (⟨"java/lang/Math", "abs", "(J)J"⟩ : MethodName)) hown (hw _ (List.mem_of_getElem? (i := 41) rfl)) (hw _ (List.mem_of_getElem? (i := 42) rfl)) (hw _ (List.mem_of_getElem? (i := 32) rfl)) (hw _ (List.mem_of_getElem? (i := 43) rfl))  (by decide) (rm_absJ l Z a0 hw [] p1.toInt64 h0 n0 Z0) (by decide) (W := 0) (by decide) (by decide) (by decide) e0 (by rw [hml]; rfl) (argsL := [(.long p1.toInt64)]) (rest := []) rfl (lenOf pd__J_J rfl) rfl (Nat.le_of_eq rfl) (pc' := 10) rfl (hb hby d_method_3_code_7) ?_
    rintro _ T2 L2 X2 ⟨rfl, N2, e2⟩
    have M2 := Fr.app N0 N2
    show own_Goes p e below T2 (mkF m 10 #[.val (.int p1), .val (.int p2), .val (.int p3)] [(.long (own_labs p1.toInt64))]) _
    refine own_goto X2 hx (pc' := 14) (hb hby d_method_3_code_10) (by decide) (by decide) ?_
    refine own_lret X2 hx hlk hret (hb hby d_method_3_code_14) (by decide) (by decide) ?_
    rw [e2]
    exact ⟨by first | (simp only [own_part, if_pos c2_1]; done) | (simp only [own_part, if_pos c2_1]; rfl), M2, rfl⟩
  · refine own_icmpT X0 hx (pc' := 13) (hb hby d_method_3_code_2) (XT.ii_ge_t c2_1) (by decide) (by decide) ?_
    refine own_lconst X0 hx (v := (0 : Int64)) (pc' := 14) rfl (hb hby d_method_3_code_13) rfl ?_
    refine own_lret X0 hx hlk hret (hb hby d_method_3_code_14) (by decide) (by decide) ?_
    rw [e0]
    exact ⟨by first | (simp only [own_part, if_neg c2_1]; done) | (simp only [own_part, if_neg c2_1]; rfl), N0, rfl⟩
theorem ef_rm_upTo (m : MethodId) (p1 : Int32) (p2 : Int32) (p3 : Int32) (p4 : Int32) (p5 : Int32) : entryFrame m #[(.int p1), (.int p2), (.int p3), (.int p4), (.int p5)] 5 = mkF m 0 #[.val (.int p1), .val (.int p2), .val (.int p3), .val (.int p4), .val (.int p5)] [] := by first | (simp [entryFrame, mkF, argsToLocals, Value.category]; done) | rfl
def K_rm_upTo  (Z : State) (h0 : Heap) (n0 : Nat) (p1 : Int32) (p2 : Int32) (p3 : Int32) (p4 : Int32) (p5 : Int32) (v : Option Value) (h : Heap) (L : List Loc) : Prop := v = some (.long (own_upTo p1 p2 p3 p4 p5)) ∧ Fr n0 L ∧ h = h0
theorem d_method_4_code_0 : decode method_4_code 0 = .ok (.iload_n 0, 1) := by decide +kernel
theorem d_method_4_code_1 : decode method_4_code 1 = .ok (.iconst 0, 1) := by decide +kernel
theorem d_method_4_code_2 : decode method_4_code 2 = .ok (.iload 4, 2) := by decide +kernel
theorem d_method_4_code_4 : decode method_4_code 4 = .ok (.invokestatic 35, 3) := by decide +kernel
theorem pd__III_J : parseMethodDescriptor "(III)J" = some ⟨[.int, .int, .int], some .long⟩ := by decide +kernel
theorem d_method_4_code_7 : decode method_4_code 7 = .ok (.iload_n 1, 1) := by decide +kernel
theorem d_method_4_code_8 : decode method_4_code 8 = .ok (.iconst 1, 1) := by decide +kernel
theorem d_method_4_code_9 : decode method_4_code 9 = .ok (.iload 4, 2) := by decide +kernel
theorem d_method_4_code_11 : decode method_4_code 11 = .ok (.invokestatic 35, 3) := by decide +kernel
theorem d_method_4_code_14 : decode method_4_code 14 = .ok (.ladd, 1) := by decide +kernel
theorem d_method_4_code_15 : decode method_4_code 15 = .ok (.iload_n 2, 1) := by decide +kernel
theorem d_method_4_code_16 : decode method_4_code 16 = .ok (.iconst 2, 1) := by decide +kernel
theorem d_method_4_code_17 : decode method_4_code 17 = .ok (.iload 4, 2) := by decide +kernel
theorem d_method_4_code_19 : decode method_4_code 19 = .ok (.invokestatic 35, 3) := by decide +kernel
theorem d_method_4_code_22 : decode method_4_code 22 = .ok (.ladd, 1) := by decide +kernel
theorem d_method_4_code_23 : decode method_4_code 23 = .ok (.iload_n 3, 1) := by decide +kernel
theorem d_method_4_code_24 : decode method_4_code 24 = .ok (.iconst 3, 1) := by decide +kernel
theorem d_method_4_code_25 : decode method_4_code 25 = .ok (.iload 4, 2) := by decide +kernel
theorem d_method_4_code_27 : decode method_4_code 27 = .ok (.invokestatic 35, 3) := by decide +kernel
theorem d_method_4_code_30 : decode method_4_code 30 = .ok (.ladd, 1) := by decide +kernel
theorem d_method_4_code_31 : decode method_4_code 31 = .ok (.lreturn, 1) := by decide +kernel
set_option maxRecDepth 65536 in
set_option maxHeartbeats 40000000 in
theorem rm_upTo (l : Launch) (Z : State) (a0 : Array Value) (hw : ∀ d ∈ tables_1, d.before a0 Z = true) (ws : List Jvm.Cond)  (p1 : Int32) (p2 : Int32) (p3 : Int32) (p4 : Int32) (p5 : Int32) (h0 : Heap) (n0 : Nat) (Z0 : n0 ≤ h0.size) :
    MetFree l (⟨"com/example/ferrule/ferrule/matrix/CompensatedSumsMagnitudePinLaw", "upTo", "(IIIII)J"⟩ : MethodName) (head1 (Jvm.Cond.code (⟨"com/example/ferrule/ferrule/matrix/CompensatedSumsMagnitudePinLaw", "upTo", "(IIIII)J"⟩ : MethodName) method_4_code 5 (some .long) :: ws) ({ frames := 2, cells := 0, slots := 0, locals := 29 } : Room)) (fun a U => a = #[(.int p1), (.int p2), (.int p3), (.int p4), (.int p5)] ∧ Z.Warmed39 U.vm ∧ U.heap = h0) (fun _ _ _ _ _ => True) (fun _ U o U' => ∃ v L, o = .returned v ∧ (K_rm_upTo  Z h0 n0 p1 p2 p3 p4 p5) v U'.heap L ∧ FrameEnd U o U' L ({ frames := 2, cells := 0, slots := 0, locals := 29 } : Room).cells ({ frames := 2, cells := 0, slots := 0, locals := 29 } : Room).slots) := by
  refine own_body (plainFor_of_name pn_com_example_ferrule_ferrule_matrix_CompensatedSumsMagnitudePinLaw) ?_
  intro p e s m below meth c s₁ hx hby hml hown hnm hret hlk hZ X0 e0
  have hown : s.vm.findClass "com/example/ferrule/ferrule/matrix/CompensatedSumsMagnitudePinLaw" = some m.cls := hown
  have N0 := Fr.nil n0
  rw [ef_rm_upTo m p1 p2 p3 p4 p5]
  refine own_iloadN X0 hx (pc' := 1) rfl (hb hby d_method_4_code_0) rfl ?_
  refine own_iconst X0 hx (v := (0 : Int32)) (pc' := 2) rfl (hb hby d_method_4_code_1) rfl ?_
  refine own_iload X0 hx (pc' := 4) rfl (hb hby d_method_4_code_2) rfl ?_
  refine own_callS X0 hx hZ (y := (⟨"com/example/ferrule/ferrule/matrix/CompensatedSumsMagnitudePinLaw", "part", "(III)J"⟩ : MethodName)) hown (hw _ (List.mem_of_getElem? (i := 38) rfl)) (hw _ (List.mem_of_getElem? (i := 39) rfl)) (hw _ (List.mem_of_getElem? (i := 36) rfl)) (hw _ (List.mem_of_getElem? (i := 40) rfl))  (by decide) (rm_part l Z a0 hw [] p1 (0 : Int32) p5 h0 n0 Z0) (by decide) (W := 0) (by decide) (by decide) (by decide) e0 (by rw [hml]; rfl) (argsL := [(.int p1), (.int (0 : Int32)), (.int p5)]) (rest := []) rfl (lenOf pd__III_J rfl) rfl (Nat.le_of_eq rfl) (pc' := 7) rfl (hb hby d_method_4_code_4) ?_
  rintro _ T1 L1 X1 ⟨rfl, N1, e1⟩
  have M1 := Fr.app N0 N1
  show own_Goes p e below T1 (mkF m 7 #[.val (.int p1), .val (.int p2), .val (.int p3), .val (.int p4), .val (.int p5)] [(.long (own_part p1 (0 : Int32) p5))]) _
  refine own_iloadN X1 hx (pc' := 8) rfl (hb hby d_method_4_code_7) rfl ?_
  refine own_iconst X1 hx (v := (1 : Int32)) (pc' := 9) rfl (hb hby d_method_4_code_8) rfl ?_
  refine own_iload X1 hx (pc' := 11) rfl (hb hby d_method_4_code_9) rfl ?_
  refine own_callS X1 hx hZ (y := (⟨"com/example/ferrule/ferrule/matrix/CompensatedSumsMagnitudePinLaw", "part", "(III)J"⟩ : MethodName)) hown (hw _ (List.mem_of_getElem? (i := 38) rfl)) (hw _ (List.mem_of_getElem? (i := 39) rfl)) (hw _ (List.mem_of_getElem? (i := 36) rfl)) (hw _ (List.mem_of_getElem? (i := 40) rfl))  (by decide) (rm_part l Z a0 hw [] p2 (1 : Int32) p5 h0 n0 Z0) (by decide) (W := 2) (by decide) (by decide) (by decide) e1 (by rw [hml]; rfl) (argsL := [(.int p2), (.int (1 : Int32)), (.int p5)]) (rest := [(.long (own_part p1 (0 : Int32) p5))]) rfl (lenOf pd__III_J rfl) rfl (Nat.le_of_eq rfl) (pc' := 14) rfl (hb hby d_method_4_code_11) ?_
  rintro _ T2 L2 X2 ⟨rfl, N2, e2⟩
  have M2 := Fr.app M1 N2
  show own_Goes p e below T2 (mkF m 14 #[.val (.int p1), .val (.int p2), .val (.int p3), .val (.int p4), .val (.int p5)] [(.long (own_part p2 (1 : Int32) p5)), (.long (own_part p1 (0 : Int32) p5))]) _
  refine own_ladd X2 hx (v := ((own_part p1 (0 : Int32) p5) + (own_part p2 (1 : Int32) p5))) (pc' := 15) rfl (hb hby d_method_4_code_14) rfl ?_
  refine own_iloadN X2 hx (pc' := 16) rfl (hb hby d_method_4_code_15) rfl ?_
  refine own_iconst X2 hx (v := (2 : Int32)) (pc' := 17) rfl (hb hby d_method_4_code_16) rfl ?_
  refine own_iload X2 hx (pc' := 19) rfl (hb hby d_method_4_code_17) rfl ?_
  refine own_callS X2 hx hZ (y := (⟨"com/example/ferrule/ferrule/matrix/CompensatedSumsMagnitudePinLaw", "part", "(III)J"⟩ : MethodName)) hown (hw _ (List.mem_of_getElem? (i := 38) rfl)) (hw _ (List.mem_of_getElem? (i := 39) rfl)) (hw _ (List.mem_of_getElem? (i := 36) rfl)) (hw _ (List.mem_of_getElem? (i := 40) rfl))  (by decide) (rm_part l Z a0 hw [] p3 (2 : Int32) p5 h0 n0 Z0) (by decide) (W := 2) (by decide) (by decide) (by decide) e2 (by rw [hml]; rfl) (argsL := [(.int p3), (.int (2 : Int32)), (.int p5)]) (rest := [(.long ((own_part p1 (0 : Int32) p5) + (own_part p2 (1 : Int32) p5)))]) rfl (lenOf pd__III_J rfl) rfl (Nat.le_of_eq rfl) (pc' := 22) rfl (hb hby d_method_4_code_19) ?_
  rintro _ T3 L3 X3 ⟨rfl, N3, e3⟩
  have M3 := Fr.app M2 N3
  show own_Goes p e below T3 (mkF m 22 #[.val (.int p1), .val (.int p2), .val (.int p3), .val (.int p4), .val (.int p5)] [(.long (own_part p3 (2 : Int32) p5)), (.long ((own_part p1 (0 : Int32) p5) + (own_part p2 (1 : Int32) p5)))]) _
  refine own_ladd X3 hx (v := (((own_part p1 (0 : Int32) p5) + (own_part p2 (1 : Int32) p5)) + (own_part p3 (2 : Int32) p5))) (pc' := 23) rfl (hb hby d_method_4_code_22) rfl ?_
  refine own_iloadN X3 hx (pc' := 24) rfl (hb hby d_method_4_code_23) rfl ?_
  refine own_iconst X3 hx (v := (3 : Int32)) (pc' := 25) rfl (hb hby d_method_4_code_24) rfl ?_
  refine own_iload X3 hx (pc' := 27) rfl (hb hby d_method_4_code_25) rfl ?_
  refine own_callS X3 hx hZ (y := (⟨"com/example/ferrule/ferrule/matrix/CompensatedSumsMagnitudePinLaw", "part", "(III)J"⟩ : MethodName)) hown (hw _ (List.mem_of_getElem? (i := 38) rfl)) (hw _ (List.mem_of_getElem? (i := 39) rfl)) (hw _ (List.mem_of_getElem? (i := 36) rfl)) (hw _ (List.mem_of_getElem? (i := 40) rfl))  (by decide) (rm_part l Z a0 hw [] p4 (3 : Int32) p5 h0 n0 Z0) (by decide) (W := 2) (by decide) (by decide) (by decide) e3 (by rw [hml]; rfl) (argsL := [(.int p4), (.int (3 : Int32)), (.int p5)]) (rest := [(.long (((own_part p1 (0 : Int32) p5) + (own_part p2 (1 : Int32) p5)) + (own_part p3 (2 : Int32) p5)))]) rfl (lenOf pd__III_J rfl) rfl (Nat.le_of_eq rfl) (pc' := 30) rfl (hb hby d_method_4_code_27) ?_
  rintro _ T4 L4 X4 ⟨rfl, N4, e4⟩
  have M4 := Fr.app M3 N4
  show own_Goes p e below T4 (mkF m 30 #[.val (.int p1), .val (.int p2), .val (.int p3), .val (.int p4), .val (.int p5)] [(.long (own_part p4 (3 : Int32) p5)), (.long (((own_part p1 (0 : Int32) p5) + (own_part p2 (1 : Int32) p5)) + (own_part p3 (2 : Int32) p5)))]) _
  refine own_ladd X4 hx (v := ((((own_part p1 (0 : Int32) p5) + (own_part p2 (1 : Int32) p5)) + (own_part p3 (2 : Int32) p5)) + (own_part p4 (3 : Int32) p5))) (pc' := 31) rfl (hb hby d_method_4_code_30) rfl ?_
  refine own_lret X4 hx hlk hret (hb hby d_method_4_code_31) (by decide) (by decide) ?_
  rw [e4]
  exact ⟨rfl, M4, rfl⟩
theorem ef_rm_err (m : MethodId) (p1 : UInt64) (p2 : UInt64) (p3 : UInt64) : entryFrame m #[(.double p1), (.double p2), (.double p3)] 6 = mkF m 0 #[.val (.double p1), .second, .val (.double p2), .second, .val (.double p3), .second] [] := by first | (simp [entryFrame, mkF, argsToLocals, Value.category]; done) | rfl
def K_rm_err (i : Int) (j : Int) (Z : State) (h0 : Heap) (n0 : Nat) (p1 : UInt64) (p2 : UInt64) (p3 : UInt64) (v : Option Value) (h : Heap) (L : List Loc) : Prop := ∃ r, v = some (.double r) ∧ DInt 0 r ∧ Fr n0 L ∧ h = h0
theorem d_prog_63_method_9_code_0 : decode prog_63_method_9_code 0 = .ok (.dload_n 0, 1) := by decide +kernel
theorem d_prog_63_method_9_code_1 : decode prog_63_method_9_code 1 = .ok (.invokestatic 20, 3) := by decide +kernel
theorem d_prog_63_method_9_code_4 : decode prog_63_method_9_code 4 = .ok (.dload_n 2, 1) := by decide +kernel
theorem d_prog_63_method_9_code_5 : decode prog_63_method_9_code 5 = .ok (.invokestatic 20, 3) := by decide +kernel
theorem d_prog_63_method_9_code_8 : decode prog_63_method_9_code 8 = .ok (.dcmp .l, 1) := by decide +kernel
theorem d_prog_63_method_9_code_9 : decode prog_63_method_9_code 9 = .ok (.ifCond .lt 12, 3) := by decide +kernel
theorem d_prog_63_method_9_code_21 : decode prog_63_method_9_code 21 = .ok (.dload_n 2, 1) := by decide +kernel
theorem d_prog_63_method_9_code_22 : decode prog_63_method_9_code 22 = .ok (.dload 4, 2) := by decide +kernel
theorem d_prog_63_method_9_code_24 : decode prog_63_method_9_code 24 = .ok (.dsub, 1) := by decide +kernel
theorem d_prog_63_method_9_code_25 : decode prog_63_method_9_code 25 = .ok (.dload_n 0, 1) := by decide +kernel
theorem d_prog_63_method_9_code_26 : decode prog_63_method_9_code 26 = .ok (.dadd, 1) := by decide +kernel
theorem d_prog_63_method_9_code_27 : decode prog_63_method_9_code 27 = .ok (.dreturn, 1) := by decide +kernel
theorem d_prog_63_method_9_code_12 : decode prog_63_method_9_code 12 = .ok (.dload_n 0, 1) := by decide +kernel
theorem d_prog_63_method_9_code_13 : decode prog_63_method_9_code 13 = .ok (.dload 4, 2) := by decide +kernel
theorem d_prog_63_method_9_code_15 : decode prog_63_method_9_code 15 = .ok (.dsub, 1) := by decide +kernel
theorem d_prog_63_method_9_code_16 : decode prog_63_method_9_code 16 = .ok (.dload_n 2, 1) := by decide +kernel
theorem d_prog_63_method_9_code_17 : decode prog_63_method_9_code 17 = .ok (.dadd, 1) := by decide +kernel
theorem d_prog_63_method_9_code_18 : decode prog_63_method_9_code 18 = .ok (.goto 9, 3) := by decide +kernel
theorem pn_com_example_ferrule_ferrule_matrix_CompensatedSum : plainName "com/example/ferrule/ferrule/matrix/CompensatedSum" = true := by first | (simp [plainName, overriddenIn]; done) | decide +kernel
set_option maxRecDepth 65536 in
set_option maxHeartbeats 40000000 in
theorem rm_err (l : Launch) (Z : State) (a0 : Array Value) (hw : ∀ d ∈ tables_1, d.before a0 Z = true) (ws : List Jvm.Cond) (i : Int) (j : Int) (p1 : UInt64) (p2 : UInt64) (p3 : UInt64) (h0 : Heap) (n0 : Nat) (Z0 : n0 ≤ h0.size) (h1 : DInt i p1) (h2 : DInt j p2) (h3 : DInt (i + j) p3) (hbb : i.natAbs ≤ 2 ^ 50 ∧ j.natAbs ≤ 2 ^ 50) :
    MetFree l (⟨"com/example/ferrule/ferrule/matrix/CompensatedSum", "error", "(DDD)D"⟩ : MethodName) (head1 (Jvm.Cond.code (⟨"com/example/ferrule/ferrule/matrix/CompensatedSum", "error", "(DDD)D"⟩ : MethodName) prog_63_method_9_code 6 (some .double) :: ws) ({ frames := 1, cells := 0, slots := 0, locals := 15 } : Room)) (fun a U => a = #[(.double p1), (.double p2), (.double p3)] ∧ Z.Warmed39 U.vm ∧ U.heap = h0) (fun _ _ _ _ _ => True) (fun _ U o U' => ∃ v L, o = .returned v ∧ (K_rm_err i j Z h0 n0 p1 p2 p3) v U'.heap L ∧ FrameEnd U o U' L ({ frames := 1, cells := 0, slots := 0, locals := 15 } : Room).cells ({ frames := 1, cells := 0, slots := 0, locals := 15 } : Room).slots) := by
  refine own_body (plainFor_of_name pn_com_example_ferrule_ferrule_matrix_CompensatedSum) ?_
  intro p e s m below meth c s₁ hx hby hml hown hnm hret hlk hZ X0 e0
  have hown : s.vm.findClass "com/example/ferrule/ferrule/matrix/CompensatedSum" = some m.cls := hown
  have N0 := Fr.nil n0
  rw [ef_rm_err m p1 p2 p3]
  refine own_dloadN X0 hx (pc' := 1) rfl (hb hby d_prog_63_method_9_code_0) rfl ?_
  refine own_absD X0 hx hZ hown (hw _ (List.mem_of_getElem? (i := 30) rfl)) (hw _ (List.mem_of_getElem? (i := 31) rfl)) (hw _ (List.mem_of_getElem? (i := 32) rfl)) (hw _ (List.mem_of_getElem? (i := 33) rfl)) e0 (v := (p1 &&& 0x7fffffffffffffff)) (own_nnI h1) rfl (by rw [hml]; rfl) (by decide) (W := 0) (Nat.le_of_eq rfl) (by decide) (by decide) (by decide) (pc' := 4) rfl (hb hby d_prog_63_method_9_code_1) ?_
  intro T1 X1 e1
  refine own_dloadN X1 hx (pc' := 5) rfl (hb hby d_prog_63_method_9_code_4) rfl ?_
  refine own_absD X1 hx hZ hown (hw _ (List.mem_of_getElem? (i := 30) rfl)) (hw _ (List.mem_of_getElem? (i := 31) rfl)) (hw _ (List.mem_of_getElem? (i := 32) rfl)) (hw _ (List.mem_of_getElem? (i := 33) rfl)) e1 (v := (p2 &&& 0x7fffffffffffffff)) (own_nnI h2) rfl (by rw [hml]; rfl) (by decide) (W := 2) (Nat.le_of_eq rfl) (by decide) (by decide) (by decide) (pc' := 8) rfl (hb hby d_prog_63_method_9_code_5) ?_
  intro T2 X2 e2
  refine own_dcmp X2 hx (v := (cmpValue (FP.dcmp (p1 &&& 0x7fffffffffffffff) (p2 &&& 0x7fffffffffffffff)) .l)) (pc' := 9) rfl (hb hby d_prog_63_method_9_code_8) rfl ?_
  by_cases c9_3 : (cmpValue (FP.dcmp (p1 &&& 0x7fffffffffffffff) (p2 &&& 0x7fffffffffffffff)) .l) < 0
  · refine own_ifT X2 hx (pc' := 21) (hb hby d_prog_63_method_9_code_9) (XT.i0_lt_t c9_3) (by decide) (by decide) ?_
    have t1 := own_subI h2 h3 (k := -i) (by omega) (by omega)
    have t2 := own_addI t1.1 h1 (k := 0) (by omega) (by decide)
    refine own_dloadN X2 hx (pc' := 22) rfl (hb hby d_prog_63_method_9_code_21) rfl ?_
    refine own_dload X2 hx (pc' := 24) rfl (hb hby d_prog_63_method_9_code_22) rfl ?_
    refine own_dsub X2 hx (v := (FP.dsub p2 p3)) (pc' := 25) rfl (hb hby d_prog_63_method_9_code_24) t1.2 rfl ?_
    refine own_dloadN X2 hx (pc' := 26) rfl (hb hby d_prog_63_method_9_code_25) rfl ?_
    refine own_dadd X2 hx (v := (FP.dadd (FP.dsub p2 p3) p1)) (pc' := 27) rfl (hb hby d_prog_63_method_9_code_26) t2.2 rfl ?_
    refine own_dret X2 hx hlk hret (hb hby d_prog_63_method_9_code_27) (by decide) (by decide) ?_
    rw [e2]
    exact ⟨_, rfl, (t2).1, N0, rfl⟩
  · refine own_ifF X2 hx (pc' := 12) rfl (hb hby d_prog_63_method_9_code_9) (XT.i0_lt_f c9_3) ?_
    have t1 := own_subI h1 h3 (k := -j) (by omega) (by omega)
    have t2 := own_addI t1.1 h2 (k := 0) (by omega) (by decide)
    refine own_dloadN X2 hx (pc' := 13) rfl (hb hby d_prog_63_method_9_code_12) rfl ?_
    refine own_dload X2 hx (pc' := 15) rfl (hb hby d_prog_63_method_9_code_13) rfl ?_
    refine own_dsub X2 hx (v := (FP.dsub p1 p3)) (pc' := 16) rfl (hb hby d_prog_63_method_9_code_15) t1.2 rfl ?_
    refine own_dloadN X2 hx (pc' := 17) rfl (hb hby d_prog_63_method_9_code_16) rfl ?_
    refine own_dadd X2 hx (v := (FP.dadd (FP.dsub p1 p3) p2)) (pc' := 18) rfl (hb hby d_prog_63_method_9_code_17) t2.2 rfl ?_
    refine own_goto X2 hx (pc' := 27) (hb hby d_prog_63_method_9_code_18) (by decide) (by decide) ?_
    refine own_dret X2 hx hlk hret (hb hby d_prog_63_method_9_code_27) (by decide) (by decide) ?_
    rw [e2]
    exact ⟨_, rfl, (t2).1, N0, rfl⟩
theorem ef_rm_errW (m : MethodId) (p1 : UInt64) (p2 : UInt64) (p3 : UInt64) : entryFrame m #[(.double p1), (.double p2), (.double p3)] 8 = mkF m 0 #[.val (.double p1), .second, .val (.double p2), .second, .val (.double p3), .second, .unset, .unset] [] := by first | (simp [entryFrame, mkF, argsToLocals, Value.category]; done) | rfl
def K_rm_errW (i : Int) (j : Int) (Z : State) (h0 : Heap) (n0 : Nat) (p1 : UInt64) (p2 : UInt64) (p3 : UInt64) (v : Option Value) (h : Heap) (L : List Loc) : Prop := ∃ r, v = some (.double r) ∧ DInt 0 r ∧ Fr n0 L ∧ h = h0
theorem d_prog_63_method_10_code_0 : decode prog_63_method_10_code 0 = .ok (.dload 4, 2) := by decide +kernel
theorem d_prog_63_method_10_code_2 : decode prog_63_method_10_code 2 = .ok (.dload_n 0, 1) := by decide +kernel
theorem d_prog_63_method_10_code_3 : decode prog_63_method_10_code 3 = .ok (.dsub, 1) := by decide +kernel
theorem d_prog_63_method_10_code_4 : decode prog_63_method_10_code 4 = .ok (.dstore 6, 2) := by decide +kernel
theorem d_prog_63_method_10_code_6 : decode prog_63_method_10_code 6 = .ok (.dload_n 0, 1) := by decide +kernel
theorem d_prog_63_method_10_code_7 : decode prog_63_method_10_code 7 = .ok (.dload 4, 2) := by decide +kernel
theorem d_prog_63_method_10_code_9 : decode prog_63_method_10_code 9 = .ok (.dload 6, 2) := by decide +kernel
theorem d_prog_63_method_10_code_11 : decode prog_63_method_10_code 11 = .ok (.dsub, 1) := by decide +kernel
theorem d_prog_63_method_10_code_12 : decode prog_63_method_10_code 12 = .ok (.dsub, 1) := by decide +kernel
theorem d_prog_63_method_10_code_13 : decode prog_63_method_10_code 13 = .ok (.dload_n 2, 1) := by decide +kernel
theorem d_prog_63_method_10_code_14 : decode prog_63_method_10_code 14 = .ok (.dload 6, 2) := by decide +kernel
theorem d_prog_63_method_10_code_16 : decode prog_63_method_10_code 16 = .ok (.dsub, 1) := by decide +kernel
theorem d_prog_63_method_10_code_17 : decode prog_63_method_10_code 17 = .ok (.dadd, 1) := by decide +kernel
theorem d_prog_63_method_10_code_18 : decode prog_63_method_10_code 18 = .ok (.dreturn, 1) := by decide +kernel
set_option maxRecDepth 65536 in
set_option maxHeartbeats 40000000 in
theorem rm_errW (l : Launch) (Z : State) (a0 : Array Value) (hw : ∀ d ∈ tables_1, d.before a0 Z = true) (ws : List Jvm.Cond) (i : Int) (j : Int) (p1 : UInt64) (p2 : UInt64) (p3 : UInt64) (h0 : Heap) (n0 : Nat) (Z0 : n0 ≤ h0.size) (h1 : DInt i p1) (h2 : DInt j p2) (h3 : DInt (i + j) p3) (hbb : i.natAbs ≤ 2 ^ 50 ∧ j.natAbs ≤ 2 ^ 50) :
    MetFree l (⟨"com/example/ferrule/ferrule/matrix/CompensatedSum", "errorWithoutBranch", "(DDD)D"⟩ : MethodName) (head1 (Jvm.Cond.code (⟨"com/example/ferrule/ferrule/matrix/CompensatedSum", "errorWithoutBranch", "(DDD)D"⟩ : MethodName) prog_63_method_10_code 8 (some .double) :: ws) ({ frames := 0, cells := 0, slots := 0, locals := 0 } : Room)) (fun a U => a = #[(.double p1), (.double p2), (.double p3)] ∧ Z.Warmed39 U.vm ∧ U.heap = h0) (fun _ _ _ _ _ => True) (fun _ U o U' => ∃ v L, o = .returned v ∧ (K_rm_errW i j Z h0 n0 p1 p2 p3) v U'.heap L ∧ FrameEnd U o U' L ({ frames := 0, cells := 0, slots := 0, locals := 0 } : Room).cells ({ frames := 0, cells := 0, slots := 0, locals := 0 } : Room).slots) := by
  refine own_body (plainFor_of_name pn_com_example_ferrule_ferrule_matrix_CompensatedSum) ?_
  intro p e s m below meth c s₁ hx hby hml hown hnm hret hlk hZ X0 e0
  have hown : s.vm.findClass "com/example/ferrule/ferrule/matrix/CompensatedSum" = some m.cls := hown
  have N0 := Fr.nil n0
  rw [ef_rm_errW m p1 p2 p3]
  have t1 := own_subI h3 h1 (k := j) (by omega) (by omega)
  have t2 := own_subI h3 t1.1 (k := i) (by omega) (by omega)
  have t3 := own_subI h1 t2.1 (k := 0) (by omega) (by decide)
  have t4 := own_subI h2 t1.1 (k := 0) (by omega) (by decide)
  have t5 := own_addI t3.1 t4.1 (k := 0) (by omega) (by decide)
  refine own_dload X0 hx (pc' := 2) rfl (hb hby d_prog_63_method_10_code_0) rfl ?_
  refine own_dloadN X0 hx (pc' := 3) rfl (hb hby d_prog_63_method_10_code_2) rfl ?_
  refine own_dsub X0 hx (v := (FP.dsub p3 p1)) (pc' := 4) rfl (hb hby d_prog_63_method_10_code_3) t1.2 rfl ?_
  refine own_dstore X0 hx (Ls' := #[.val (.double p1), .second, .val (.double p2), .second, .val (.double p3), .second, .val (.double (FP.dsub p3 p1)), .second]) (pc' := 6) rfl (hb hby d_prog_63_method_10_code_4) rfl ?_
  refine own_dloadN X0 hx (pc' := 7) rfl (hb hby d_prog_63_method_10_code_6) rfl ?_
  refine own_dload X0 hx (pc' := 9) rfl (hb hby d_prog_63_method_10_code_7) rfl ?_
  refine own_dload X0 hx (pc' := 11) rfl (hb hby d_prog_63_method_10_code_9) rfl ?_
  refine own_dsub X0 hx (v := (FP.dsub p3 (FP.dsub p3 p1))) (pc' := 12) rfl (hb hby d_prog_63_method_10_code_11) t2.2 rfl ?_
  refine own_dsub X0 hx (v := (FP.dsub p1 (FP.dsub p3 (FP.dsub p3 p1)))) (pc' := 13) rfl (hb hby d_prog_63_method_10_code_12) t3.2 rfl ?_
  refine own_dloadN X0 hx (pc' := 14) rfl (hb hby d_prog_63_method_10_code_13) rfl ?_
  refine own_dload X0 hx (pc' := 16) rfl (hb hby d_prog_63_method_10_code_14) rfl ?_
  refine own_dsub X0 hx (v := (FP.dsub p2 (FP.dsub p3 p1))) (pc' := 17) rfl (hb hby d_prog_63_method_10_code_16) t4.2 rfl ?_
  refine own_dadd X0 hx (v := (FP.dadd (FP.dsub p1 (FP.dsub p3 (FP.dsub p3 p1))) (FP.dsub p2 (FP.dsub p3 p1)))) (pc' := 18) rfl (hb hby d_prog_63_method_10_code_17) t5.2 rfl ?_
  refine own_dret X0 hx hlk hret (hb hby d_prog_63_method_10_code_18) (by decide) (by decide) ?_
  rw [e0]
  exact ⟨_, rfl, (t5).1, N0, rfl⟩
theorem ef_rm_ctor (m : MethodId) (a1 : Addr) (p2 : Int32) : entryFrame m #[(.ref a1), (.int p2)] 2 = mkF m 0 #[.val (.ref a1), .val (.int p2)] [] := by first | (simp [entryFrame, mkF, argsToLocals, Value.category]; done) | rfl
def K_rm_ctor (n : Nat) (Z : State) (h0 : Heap) (n0 : Nat) (a1 : Addr) (p2 : Int32) (v : Option Value) (h : Heap) (L : List Loc) : Prop := v = none ∧ Fr n0 L ∧ Keep h0 h [a1] ∧ ∃ aS aC, Fld Z h a1 "com/example/ferrule/ferrule/matrix/CompensatedSums" "sums" "[D" (.ref aS) ∧ Fld Z h a1 "com/example/ferrule/ferrule/matrix/CompensatedSums" "compensations" "[D" (.ref aC) ∧ Fld Z h a1 "com/example/ferrule/ferrule/matrix/CompensatedSums" "magnitudes" "[D" .null ∧ own_Arr Z h aS .double n (fun _ => (.double (0 : UInt64))) ∧ own_Arr Z h aC .double n (fun _ => (.double (0 : UInt64))) ∧ h0.size ≤ aS ∧ h0.size ≤ aC ∧ aS ≠ aC
theorem d_prog_64_method_1_code_0 : decode prog_64_method_1_code 0 = .ok (.aload_n 0, 1) := by decide +kernel
theorem d_prog_64_method_1_code_1 : decode prog_64_method_1_code 1 = .ok (.invokespecial 1, 3) := by decide +kernel
theorem d_prog_64_method_1_code_4 : decode prog_64_method_1_code 4 = .ok (.aload_n 0, 1) := by decide +kernel
theorem d_prog_64_method_1_code_5 : decode prog_64_method_1_code 5 = .ok (.iload_n 1, 1) := by decide +kernel
theorem d_prog_64_method_1_code_6 : decode prog_64_method_1_code 6 = .ok (.newarray .double, 2) := by decide +kernel
theorem d_prog_64_method_1_code_8 : decode prog_64_method_1_code 8 = .ok (.putfield 7, 3) := by decide +kernel
theorem d_prog_64_method_1_code_11 : decode prog_64_method_1_code 11 = .ok (.aload_n 0, 1) := by decide +kernel
theorem d_prog_64_method_1_code_12 : decode prog_64_method_1_code 12 = .ok (.iload_n 1, 1) := by decide +kernel
theorem d_prog_64_method_1_code_13 : decode prog_64_method_1_code 13 = .ok (.newarray .double, 2) := by decide +kernel
theorem d_prog_64_method_1_code_15 : decode prog_64_method_1_code 15 = .ok (.putfield 13, 3) := by decide +kernel
theorem d_prog_64_method_1_code_18 : decode prog_64_method_1_code 18 = .ok (.return_, 1) := by decide +kernel
theorem pn_com_example_ferrule_ferrule_matrix_CompensatedSums : plainName "com/example/ferrule/ferrule/matrix/CompensatedSums" = true := by first | (simp [plainName, overriddenIn]; done) | decide +kernel
set_option maxRecDepth 65536 in
set_option maxHeartbeats 40000000 in
theorem rm_ctor (l : Launch) (Z : State) (a0 : Array Value) (hw : ∀ d ∈ tables_1, d.before a0 Z = true) (ws : List Jvm.Cond) (n : Nat) (a1 : Addr) (p2 : Int32) (h0 : Heap) (n0 : Nat) (Z0 : n0 ≤ h0.size) (I0 : Exa Z h0 a1 "com/example/ferrule/ferrule/matrix/CompensatedSums") (I1 : Fld Z h0 a1 "com/example/ferrule/ferrule/matrix/CompensatedSums" "sums" "[D" .null) (I2 : Fld Z h0 a1 "com/example/ferrule/ferrule/matrix/CompensatedSums" "compensations" "[D" .null) (I3 : Fld Z h0 a1 "com/example/ferrule/ferrule/matrix/CompensatedSums" "magnitudes" "[D" .null) (ge_a1 : n0 ≤ a1) (hl0 : ¬ p2 < 0) (hl1 : p2.toNatClampNeg = n) (hl4 : n ≤ 4) :
    MetFree l (⟨"com/example/ferrule/ferrule/matrix/CompensatedSums", "<init>", "(I)V"⟩ : MethodName) (head1 (Jvm.Cond.code (⟨"com/example/ferrule/ferrule/matrix/CompensatedSums", "<init>", "(I)V"⟩ : MethodName) prog_64_method_1_code 2 none :: ws) ({ frames := 1, cells := 2, slots := 8, locals := 12 } : Room)) (fun a U => a = #[(.ref a1), (.int p2)] ∧ Z.Warmed39 U.vm ∧ U.heap = h0) (fun _ _ _ _ _ => True) (fun _ U o U' => ∃ v L, o = .returned v ∧ (K_rm_ctor n Z h0 n0 a1 p2) v U'.heap L ∧ FrameEnd U o U' L ({ frames := 1, cells := 2, slots := 8, locals := 12 } : Room).cells ({ frames := 1, cells := 2, slots := 8, locals := 12 } : Room).slots) := by
  refine own_body (plainFor_of_name pn_com_example_ferrule_ferrule_matrix_CompensatedSums) ?_
  intro p e s m below meth c s₁ hx hby hml hown hnm hret hlk hZ X0 e0
  have hown : s.vm.findClass "com/example/ferrule/ferrule/matrix/CompensatedSums" = some m.cls := hown
  have N0 := Fr.nil n0
  rw [ef_rm_ctor m a1 p2]
  have K0 := Keep.refl h0 [a1]
  refine own_aloadN X0 hx (pc' := 1) rfl (hb hby d_prog_64_method_1_code_0) rfl rfl ?_
  refine own_initO X0 hx hZ hown (hw _ (List.mem_of_getElem? (i := 7) rfl)) (hw _ (List.mem_of_getElem? (i := 8) rfl)) (hw _ (List.mem_of_getElem? (i := 9) rfl)) e0 (by rw [hml]; rfl) (pc' := 4) rfl (hb hby d_prog_64_method_1_code_1) (by decide) (W := 0) (Nat.le_of_eq rfl) (by decide) ?_
  intro T1 X1 e1
  refine own_aloadN X1 hx (pc' := 5) rfl (hb hby d_prog_64_method_1_code_4) rfl rfl ?_
  refine own_iloadN X1 hx (pc' := 6) rfl (hb hby d_prog_64_method_1_code_5) rfl ?_
  refine own_newarr X1 hx hZ (aty := .double) (hw _ (List.mem_of_getElem? (i := 0) rfl)) e1 (pc' := 8) rfl (hb hby d_prog_64_method_1_code_6) hl0 (N := n) hl1 (cap := 4) (by rw [hl1]; omega) (by decide) (by decide) (by decide) ?_
  intro T2 h2 X2 e2 E2 A2
  obtain ⟨o2, g2⟩ : ∃ z, z = h0.size := ⟨_, rfl⟩
  rw [← g2] at A2 ⊢
  have ne2_a1 : a1 ≠ o2 := Nat.ne_of_lt (g2 ▸ I0.lt)
  have ge2 : n0 ≤ o2 := g2 ▸ Z0
  have Siz_3 := Nat.le_trans Z0 E2.1
  have Exa_4 := Exa.ext E2 I0
  have Fld_5 := Fld.ext E2 I1
  have Fld_6 := Fld.ext E2 I2
  have Fld_7 := Fld.ext E2 I3
  have K2 := Keep.ext K0 E2
  refine own_putF X2 hx hZ hown (host := "") (Or.inl (hw _ (List.mem_of_getElem? (i := 10) rfl))) Via.refl e2 Fld_5 Exa_4 (Or.inr ⟨(hw _ (List.mem_of_getElem? (i := 11) rfl)), rfl, hnm⟩) (hw _ (List.mem_of_getElem? (i := 2) rfl)) (ty := (.array .double)) (by decide) rfl rfl (pc' := 11) rfl (hb hby d_prog_64_method_1_code_8) ?_
  intro T8 h8 X8 e8 W8
  have F9 := Fld.same W8 Fld_5
  have Siz_10 := own_sizWr W8 Siz_3
  have Exa_11 := Exa.wr W8 Exa_4
  have Fld_13 := Fld.other W8 Fld_6 (Or.inr (slot_ne (Or.inr (hw _ (List.mem_of_getElem? (i := 13) rfl))) (Or.inr (hw _ (List.mem_of_getElem? (i := 11) rfl))) (by decide) (t := (.array .double)) (t' := (.array .double)) (by decide) (by decide)))
  have Fld_14 := Fld.other W8 Fld_7 (Or.inr (slot_ne (Or.inl (hw _ (List.mem_of_getElem? (i := 20) rfl))) (Or.inr (hw _ (List.mem_of_getElem? (i := 11) rfl))) (by decide) (t := (.array .double)) (t' := (.array .double)) (by decide) (by decide)))
  have Arr_15 := own_Arr.other W8 A2 (Ne.symm ne2_a1)
  have N8 := Fr.snoc X8 N0 ge_a1
  have K8 := Keep.wr K2 W8 (Or.inl (by simp))
  refine own_aloadN X8 hx (pc' := 12) rfl (hb hby d_prog_64_method_1_code_11) rfl rfl ?_
  refine own_iloadN X8 hx (pc' := 13) rfl (hb hby d_prog_64_method_1_code_12) rfl ?_
  refine own_newarr X8 hx hZ (aty := .double) (hw _ (List.mem_of_getElem? (i := 0) rfl)) e8 (pc' := 15) rfl (hb hby d_prog_64_method_1_code_13) hl0 (N := n) hl1 (cap := 4) (by rw [hl1]; omega) (by decide) (by decide) (by decide) ?_
  intro T16 h16 X16 e16 E16 A16
  obtain ⟨o16, g16⟩ : ∃ z, z = h8.size := ⟨_, rfl⟩
  rw [← g16] at A16 ⊢
  have ne16_a1 : a1 ≠ o16 := Nat.ne_of_lt (g16 ▸ Exa_11.lt)
  have ne16_o2 : o2 ≠ o16 := Nat.ne_of_lt (g16 ▸ (own_Arr.lt Arr_15))
  have ge16 : n0 ≤ o16 := g16 ▸ Siz_10
  have Siz_17 := Nat.le_trans Siz_10 E16.1
  have Exa_18 := Exa.ext E16 Exa_11
  have Fld_19 := Fld.ext E16 Fld_13
  have Fld_20 := Fld.ext E16 Fld_14
  have Arr_21 := own_Arr.ext E16 Arr_15
  have Fld_22 := Fld.ext E16 F9
  have K16 := Keep.ext K8 E16
  refine own_putF X16 hx hZ hown (host := "") (Or.inl (hw _ (List.mem_of_getElem? (i := 12) rfl))) Via.refl e16 Fld_19 Exa_18 (Or.inr ⟨(hw _ (List.mem_of_getElem? (i := 13) rfl)), rfl, hnm⟩) (hw _ (List.mem_of_getElem? (i := 2) rfl)) (ty := (.array .double)) (by decide) rfl rfl (pc' := 18) rfl (hb hby d_prog_64_method_1_code_15) ?_
  intro T23 h23 X23 e23 W23
  have F24 := Fld.same W23 Fld_19
  have Siz_25 := own_sizWr W23 Siz_17
  have Exa_26 := Exa.wr W23 Exa_18
  have Fld_28 := Fld.other W23 Fld_20 (Or.inr (slot_ne (Or.inl (hw _ (List.mem_of_getElem? (i := 20) rfl))) (Or.inr (hw _ (List.mem_of_getElem? (i := 13) rfl))) (by decide) (t := (.array .double)) (t' := (.array .double)) (by decide) (by decide)))
  have Arr_29 := own_Arr.other W23 Arr_21 (Ne.symm ne2_a1)
  have Fld_30 := Fld.other W23 Fld_22 (Or.inr (slot_ne (Or.inr (hw _ (List.mem_of_getElem? (i := 11) rfl))) (Or.inr (hw _ (List.mem_of_getElem? (i := 13) rfl))) (by decide) (t := (.array .double)) (t' := (.array .double)) (by decide) (by decide)))
  have Arr_31 := own_Arr.other W23 A16 (Ne.symm ne16_a1)
  have N23 := Fr.snoc X23 N8 ge_a1
  have K23 := Keep.wr K16 W23 (Or.inl (by simp))
  refine own_ret X23 hx hlk hret (hb hby d_prog_64_method_1_code_18) (by decide) (by decide) ?_
  rw [e23]
  exact ⟨rfl, N23, K23, o2, o16, Fld_30, F24, Fld_28, Arr_29, Arr_31, (Nat.le_trans K0.1 (Nat.le_of_eq g2.symm)), (Nat.le_trans K8.1 (Nat.le_of_eq g16.symm)), ne16_o2⟩
theorem ef_rm_mag0 (m : MethodId) (a1 : Addr) : entryFrame m #[(.ref a1)] 8 = mkF m 0 #[.val (.ref a1), .unset, .unset, .unset, .unset, .unset, .unset, .unset] [] := by first | (simp [entryFrame, mkF, argsToLocals, Value.category]; done) | rfl
def K_rm_mag0  (Z : State) (h0 : Heap) (n0 : Nat) (a1 : Addr) (v : Option Value) (h : Heap) (L : List Loc) : Prop := v = some (.double FP.dconst0) ∧ Fr n0 L ∧ h = h0
theorem d_prog_64_method_5_code_0 : decode prog_64_method_5_code 0 = .ok (.dconst 0, 1) := by decide +kernel
theorem d_prog_64_method_5_code_1 : decode prog_64_method_5_code 1 = .ok (.dstore_n 1, 1) := by decide +kernel
theorem d_prog_64_method_5_code_2 : decode prog_64_method_5_code 2 = .ok (.aload_n 0, 1) := by decide +kernel
theorem d_prog_64_method_5_code_3 : decode prog_64_method_5_code 3 = .ok (.getfield 22, 3) := by decide +kernel
theorem d_prog_64_method_5_code_6 : decode prog_64_method_5_code 6 = .ok (.ifnull 39, 3) := by decide +kernel
theorem d_prog_64_method_5_code_45 : decode prog_64_method_5_code 45 = .ok (.dload_n 1, 1) := by decide +kernel
theorem d_prog_64_method_5_code_46 : decode prog_64_method_5_code 46 = .ok (.dreturn, 1) := by decide +kernel
set_option maxRecDepth 65536 in
set_option maxHeartbeats 40000000 in
theorem rm_mag0 (l : Launch) (Z : State) (a0 : Array Value) (hw : ∀ d ∈ tables_1, d.before a0 Z = true) (ws : List Jvm.Cond)  (a1 : Addr) (h0 : Heap) (n0 : Nat) (Z0 : n0 ≤ h0.size) (I0 : Exa Z h0 a1 "com/example/ferrule/ferrule/matrix/CompensatedSums") (I1 : Fld Z h0 a1 "com/example/ferrule/ferrule/matrix/CompensatedSums" "magnitudes" "[D" .null) :
    MetFree l (⟨"com/example/ferrule/ferrule/matrix/CompensatedSums", "magnitude", "()D"⟩ : MethodName) (head1 (Jvm.Cond.code (⟨"com/example/ferrule/ferrule/matrix/CompensatedSums", "magnitude", "()D"⟩ : MethodName) prog_64_method_5_code 8 (some .double) :: ws) ({ frames := 0, cells := 0, slots := 0, locals := 0 } : Room)) (fun a U => a = #[(.ref a1)] ∧ Z.Warmed39 U.vm ∧ U.heap = h0) (fun _ _ _ _ _ => True) (fun _ U o U' => ∃ v L, o = .returned v ∧ (K_rm_mag0  Z h0 n0 a1) v U'.heap L ∧ FrameEnd U o U' L ({ frames := 0, cells := 0, slots := 0, locals := 0 } : Room).cells ({ frames := 0, cells := 0, slots := 0, locals := 0 } : Room).slots) := by
  refine own_body (plainFor_of_name pn_com_example_ferrule_ferrule_matrix_CompensatedSums) ?_
  intro p e s m below meth c s₁ hx hby hml hown hnm hret hlk hZ X0 e0
  have hown : s.vm.findClass "com/example/ferrule/ferrule/matrix/CompensatedSums" = some m.cls := hown
  have N0 := Fr.nil n0
  rw [ef_rm_mag0 m a1]
  refine own_dconst0 X0 hx (v := FP.dconst0) (pc' := 1) rfl (hb hby d_prog_64_method_5_code_0) rfl ?_
  refine own_dstoreN X0 hx (Ls' := #[.val (.ref a1), .val (.double FP.dconst0), .second, .unset, .unset, .unset, .unset, .unset]) (pc' := 2) rfl (hb hby d_prog_64_method_5_code_1) rfl ?_
  refine own_aloadN X0 hx (pc' := 3) rfl (hb hby d_prog_64_method_5_code_2) rfl rfl ?_
  refine own_getF X0 hx hZ hown (host := "") (Or.inl (hw _ (List.mem_of_getElem? (i := 19) rfl))) Via.refl e0 I1 (pc' := 6) rfl (hb hby d_prog_64_method_5_code_3) ?_
  intro T1 X1 e1
  refine own_ifnullT X1 hx (pc' := 45) (hb hby d_prog_64_method_5_code_6) (by decide) (by decide) ?_
  refine own_dloadN X1 hx (pc' := 46) rfl (hb hby d_prog_64_method_5_code_45) rfl ?_
  refine own_dret X1 hx hlk hret (hb hby d_prog_64_method_5_code_46) (by decide) (by decide) ?_
  rw [e1]
  exact ⟨rfl, N0, rfl⟩
theorem ef_rm_mag (m : MethodId) (a1 : Addr) : entryFrame m #[(.ref a1)] 8 = mkF m 0 #[.val (.ref a1), .unset, .unset, .unset, .unset, .unset, .unset, .unset] [] := by first | (simp [entryFrame, mkF, argsToLocals, Value.category]; done) | rfl
def K_rm_mag (aM : Addr) (n : Nat) (fm : Nat → Value) (gm : Nat → Int) (Z : State) (h0 : Heap) (n0 : Nat) (a1 : Addr) (v : Option Value) (h : Heap) (L : List Loc) : Prop := ∃ r, v = some (.double r) ∧ DInt (own_sum gm n) r ∧ Fr n0 L ∧ h = h0
theorem d_prog_64_method_5_code_9 : decode prog_64_method_5_code 9 = .ok (.aload_n 0, 1) := by decide +kernel
theorem d_prog_64_method_5_code_10 : decode prog_64_method_5_code 10 = .ok (.getfield 22, 3) := by decide +kernel
theorem d_prog_64_method_5_code_13 : decode prog_64_method_5_code 13 = .ok (.astore_n 3, 1) := by decide +kernel
theorem d_prog_64_method_5_code_14 : decode prog_64_method_5_code 14 = .ok (.aload_n 3, 1) := by decide +kernel
theorem d_prog_64_method_5_code_15 : decode prog_64_method_5_code 15 = .ok (.arraylength, 1) := by decide +kernel
theorem d_prog_64_method_5_code_16 : decode prog_64_method_5_code 16 = .ok (.istore 4, 2) := by decide +kernel
theorem d_prog_64_method_5_code_18 : decode prog_64_method_5_code 18 = .ok (.iconst 0, 1) := by decide +kernel
theorem d_prog_64_method_5_code_19 : decode prog_64_method_5_code 19 = .ok (.istore 5, 2) := by decide +kernel
theorem d_prog_64_method_5_code_21 : decode prog_64_method_5_code 21 = .ok (.iload 5, 2) := by decide +kernel
theorem d_prog_64_method_5_code_23 : decode prog_64_method_5_code 23 = .ok (.iload 4, 2) := by decide +kernel
theorem d_prog_64_method_5_code_25 : decode prog_64_method_5_code 25 = .ok (.if_icmp .ge 20, 3) := by decide +kernel
theorem d_prog_64_method_5_code_28 : decode prog_64_method_5_code 28 = .ok (.aload_n 3, 1) := by decide +kernel
theorem d_prog_64_method_5_code_29 : decode prog_64_method_5_code 29 = .ok (.iload 5, 2) := by decide +kernel
theorem d_prog_64_method_5_code_31 : decode prog_64_method_5_code 31 = .ok (.daload, 1) := by decide +kernel
theorem d_prog_64_method_5_code_32 : decode prog_64_method_5_code 32 = .ok (.dstore 6, 2) := by decide +kernel
theorem d_prog_64_method_5_code_34 : decode prog_64_method_5_code 34 = .ok (.dload_n 1, 1) := by decide +kernel
theorem d_prog_64_method_5_code_35 : decode prog_64_method_5_code 35 = .ok (.dload 6, 2) := by decide +kernel
theorem d_prog_64_method_5_code_37 : decode prog_64_method_5_code 37 = .ok (.dadd, 1) := by decide +kernel
theorem d_prog_64_method_5_code_38 : decode prog_64_method_5_code 38 = .ok (.dstore_n 1, 1) := by decide +kernel
theorem d_prog_64_method_5_code_39 : decode prog_64_method_5_code 39 = .ok (.iinc 5 1, 3) := by decide +kernel
theorem d_prog_64_method_5_code_42 : decode prog_64_method_5_code 42 = .ok (.goto (-21), 3) := by decide +kernel
set_option maxRecDepth 65536 in
set_option maxHeartbeats 40000000 in
theorem rm_mag (l : Launch) (Z : State) (a0 : Array Value) (hw : ∀ d ∈ tables_1, d.before a0 Z = true) (ws : List Jvm.Cond) (aM : Addr) (n : Nat) (fm : Nat → Value) (gm : Nat → Int) (a1 : Addr) (h0 : Heap) (n0 : Nat) (Z0 : n0 ≤ h0.size) (I0 : Exa Z h0 a1 "com/example/ferrule/ferrule/matrix/CompensatedSums") (I1 : Fld Z h0 a1 "com/example/ferrule/ferrule/matrix/CompensatedSums" "magnitudes" "[D" (.ref aM)) (I2 : own_Arr Z h0 aM .double n fm) (hD : own_DA fm n gm) (hg : own_gB gm (2 ^ 40)) (hn : n = 1 ∨ n = 2 ∨ n = 3 ∨ n = 4) :
    MetFree l (⟨"com/example/ferrule/ferrule/matrix/CompensatedSums", "magnitude", "()D"⟩ : MethodName) (head1 (Jvm.Cond.code (⟨"com/example/ferrule/ferrule/matrix/CompensatedSums", "magnitude", "()D"⟩ : MethodName) prog_64_method_5_code 8 (some .double) :: ws) ({ frames := 0, cells := 0, slots := 0, locals := 0 } : Room)) (fun a U => a = #[(.ref a1)] ∧ Z.Warmed39 U.vm ∧ U.heap = h0) (fun _ _ _ _ _ => True) (fun _ U o U' => ∃ v L, o = .returned v ∧ (K_rm_mag aM n fm gm Z h0 n0 a1) v U'.heap L ∧ FrameEnd U o U' L ({ frames := 0, cells := 0, slots := 0, locals := 0 } : Room).cells ({ frames := 0, cells := 0, slots := 0, locals := 0 } : Room).slots) := by
  refine own_body (plainFor_of_name pn_com_example_ferrule_ferrule_matrix_CompensatedSums) ?_
  intro p e s m below meth c s₁ hx hby hml hown hnm hret hlk hZ X0 e0
  have hown : s.vm.findClass "com/example/ferrule/ferrule/matrix/CompensatedSums" = some m.cls := hown
  have N0 := Fr.nil n0
  rw [ef_rm_mag m a1]
  rcases hn with rfl | rfl | rfl | rfl
  · obtain ⟨z0, ez0, dz0⟩ := hD 0 (by decide)
    have ac1 := own_addI (k := own_sum gm 1) (show DInt (own_sum gm 0) FP.dconst0 from own_dc0) dz0 rfl (own_sumN hg (by decide))
    refine own_dconst0 X0 hx (v := FP.dconst0) (pc' := 1) rfl (hb hby d_prog_64_method_5_code_0) rfl ?_
    refine own_dstoreN X0 hx (Ls' := #[.val (.ref a1), .val (.double FP.dconst0), .second, .unset, .unset, .unset, .unset, .unset]) (pc' := 2) rfl (hb hby d_prog_64_method_5_code_1) rfl ?_
    refine own_aloadN X0 hx (pc' := 3) rfl (hb hby d_prog_64_method_5_code_2) rfl rfl ?_
    refine own_getF X0 hx hZ hown (host := "") (Or.inl (hw _ (List.mem_of_getElem? (i := 19) rfl))) Via.refl e0 I1 (pc' := 6) rfl (hb hby d_prog_64_method_5_code_3) ?_
    intro T1 X1 e1
    refine own_ifnullF X1 hx (pc' := 9) rfl (hb hby d_prog_64_method_5_code_6) ?_
    refine own_aloadN X1 hx (pc' := 10) rfl (hb hby d_prog_64_method_5_code_9) rfl rfl ?_
    refine own_getF X1 hx hZ hown (host := "") (Or.inl (hw _ (List.mem_of_getElem? (i := 19) rfl))) Via.refl e1 I1 (pc' := 13) rfl (hb hby d_prog_64_method_5_code_10) ?_
    intro T2 X2 e2
    refine own_astoreN X2 hx (Ls' := #[.val (.ref a1), .val (.double FP.dconst0), .second, .val (.ref aM), .unset, .unset, .unset, .unset]) (pc' := 14) rfl (hb hby d_prog_64_method_5_code_13) rfl rfl ?_
    refine own_aloadN X2 hx (pc' := 15) rfl (hb hby d_prog_64_method_5_code_14) rfl rfl ?_
    refine own_alen X2 hx hZ e2 I2 (v := (1 : Int32)) (by decide) (pc' := 16) rfl (hb hby d_prog_64_method_5_code_15) ?_
    refine own_istore X2 hx (Ls' := #[.val (.ref a1), .val (.double FP.dconst0), .second, .val (.ref aM), .val (.int (1 : Int32)), .unset, .unset, .unset]) (pc' := 18) rfl (hb hby d_prog_64_method_5_code_16) rfl ?_
    refine own_iconst X2 hx (v := (0 : Int32)) (pc' := 19) rfl (hb hby d_prog_64_method_5_code_18) rfl ?_
    refine own_istore X2 hx (Ls' := #[.val (.ref a1), .val (.double FP.dconst0), .second, .val (.ref aM), .val (.int (1 : Int32)), .val (.int (0 : Int32)), .unset, .unset]) (pc' := 21) rfl (hb hby d_prog_64_method_5_code_19) rfl ?_
    refine own_iload X2 hx (pc' := 23) rfl (hb hby d_prog_64_method_5_code_21) rfl ?_
    refine own_iload X2 hx (pc' := 25) rfl (hb hby d_prog_64_method_5_code_23) rfl ?_
    refine own_icmpF X2 hx (pc' := 28) rfl (hb hby d_prog_64_method_5_code_25) (XT.ii_ge_f (by decide)) ?_
    refine own_aloadN X2 hx (pc' := 29) rfl (hb hby d_prog_64_method_5_code_28) rfl rfl ?_
    refine own_iload X2 hx (pc' := 31) rfl (hb hby d_prog_64_method_5_code_29) rfl ?_
    refine own_ldD X2 hx hZ e2 I2 (k := 0) (by decide) (by decide) (by decide) (v := (.double z0)) ez0 (pc' := 32) rfl (hb hby d_prog_64_method_5_code_31) ?_
    refine own_dstore X2 hx (Ls' := #[.val (.ref a1), .val (.double FP.dconst0), .second, .val (.ref aM), .val (.int (1 : Int32)), .val (.int (0 : Int32)), .val (.double z0), .second]) (pc' := 34) rfl (hb hby d_prog_64_method_5_code_32) rfl ?_
    refine own_dloadN X2 hx (pc' := 35) rfl (hb hby d_prog_64_method_5_code_34) rfl ?_
    refine own_dload X2 hx (pc' := 37) rfl (hb hby d_prog_64_method_5_code_35) rfl ?_
    refine own_dadd X2 hx (v := (FP.dadd FP.dconst0 z0)) (pc' := 38) rfl (hb hby d_prog_64_method_5_code_37) ac1.2 rfl ?_
    refine own_dstoreN X2 hx (Ls' := #[.val (.ref a1), .val (.double (FP.dadd FP.dconst0 z0)), .second, .val (.ref aM), .val (.int (1 : Int32)), .val (.int (0 : Int32)), .val (.double z0), .second]) (pc' := 39) rfl (hb hby d_prog_64_method_5_code_38) rfl ?_
    refine own_iinc X2 hx (v := (1 : Int32)) (Ls' := #[.val (.ref a1), .val (.double (FP.dadd FP.dconst0 z0)), .second, .val (.ref aM), .val (.int (1 : Int32)), .val (.int (1 : Int32)), .val (.double z0), .second]) (pc' := 42) rfl (hb hby d_prog_64_method_5_code_39) rfl (by decide) rfl ?_
    refine own_goto X2 hx (pc' := 21) (hb hby d_prog_64_method_5_code_42) (by decide) (by decide) ?_
    refine own_iload X2 hx (pc' := 23) rfl (hb hby d_prog_64_method_5_code_21) rfl ?_
    refine own_iload X2 hx (pc' := 25) rfl (hb hby d_prog_64_method_5_code_23) rfl ?_
    refine own_icmpT X2 hx (pc' := 45) (hb hby d_prog_64_method_5_code_25) (XT.ii_ge_t (by decide)) (by decide) (by decide) ?_
    refine own_dloadN X2 hx (pc' := 46) rfl (hb hby d_prog_64_method_5_code_45) rfl ?_
    refine own_dret X2 hx hlk hret (hb hby d_prog_64_method_5_code_46) (by decide) (by decide) ?_
    rw [e2]
    exact ⟨_, rfl, ac1.1, N0, rfl⟩
  · obtain ⟨z0, ez0, dz0⟩ := hD 0 (by decide)
    have ac1 := own_addI (k := own_sum gm 1) (show DInt (own_sum gm 0) FP.dconst0 from own_dc0) dz0 rfl (own_sumN hg (by decide))
    obtain ⟨z1, ez1, dz1⟩ := hD 1 (by decide)
    have ac2 := own_addI (k := own_sum gm 2) ac1.1 dz1 rfl (own_sumN hg (by decide))
    refine own_dconst0 X0 hx (v := FP.dconst0) (pc' := 1) rfl (hb hby d_prog_64_method_5_code_0) rfl ?_
    refine own_dstoreN X0 hx (Ls' := #[.val (.ref a1), .val (.double FP.dconst0), .second, .unset, .unset, .unset, .unset, .unset]) (pc' := 2) rfl (hb hby d_prog_64_method_5_code_1) rfl ?_
    refine own_aloadN X0 hx (pc' := 3) rfl (hb hby d_prog_64_method_5_code_2) rfl rfl ?_
    refine own_getF X0 hx hZ hown (host := "") (Or.inl (hw _ (List.mem_of_getElem? (i := 19) rfl))) Via.refl e0 I1 (pc' := 6) rfl (hb hby d_prog_64_method_5_code_3) ?_
    intro T3 X3 e3
    refine own_ifnullF X3 hx (pc' := 9) rfl (hb hby d_prog_64_method_5_code_6) ?_
    refine own_aloadN X3 hx (pc' := 10) rfl (hb hby d_prog_64_method_5_code_9) rfl rfl ?_
    refine own_getF X3 hx hZ hown (host := "") (Or.inl (hw _ (List.mem_of_getElem? (i := 19) rfl))) Via.refl e3 I1 (pc' := 13) rfl (hb hby d_prog_64_method_5_code_10) ?_
    intro T4 X4 e4
    refine own_astoreN X4 hx (Ls' := #[.val (.ref a1), .val (.double FP.dconst0), .second, .val (.ref aM), .unset, .unset, .unset, .unset]) (pc' := 14) rfl (hb hby d_prog_64_method_5_code_13) rfl rfl ?_
    refine own_aloadN X4 hx (pc' := 15) rfl (hb hby d_prog_64_method_5_code_14) rfl rfl ?_
    refine own_alen X4 hx hZ e4 I2 (v := (2 : Int32)) (by decide) (pc' := 16) rfl (hb hby d_prog_64_method_5_code_15) ?_
    refine own_istore X4 hx (Ls' := #[.val (.ref a1), .val (.double FP.dconst0), .second, .val (.ref aM), .val (.int (2 : Int32)), .unset, .unset, .unset]) (pc' := 18) rfl (hb hby d_prog_64_method_5_code_16) rfl ?_
    refine own_iconst X4 hx (v := (0 : Int32)) (pc' := 19) rfl (hb hby d_prog_64_method_5_code_18) rfl ?_
    refine own_istore X4 hx (Ls' := #[.val (.ref a1), .val (.double FP.dconst0), .second, .val (.ref aM), .val (.int (2 : Int32)), .val (.int (0 : Int32)), .unset, .unset]) (pc' := 21) rfl (hb hby d_prog_64_method_5_code_19) rfl ?_
    refine own_iload X4 hx (pc' := 23) rfl (hb hby d_prog_64_method_5_code_21) rfl ?_
    refine own_iload X4 hx (pc' := 25) rfl (hb hby d_prog_64_method_5_code_23) rfl ?_
    refine own_icmpF X4 hx (pc' := 28) rfl (hb hby d_prog_64_method_5_code_25) (XT.ii_ge_f (by decide)) ?_
    refine own_aloadN X4 hx (pc' := 29) rfl (hb hby d_prog_64_method_5_code_28) rfl rfl ?_
    refine own_iload X4 hx (pc' := 31) rfl (hb hby d_prog_64_method_5_code_29) rfl ?_
    refine own_ldD X4 hx hZ e4 I2 (k := 0) (by decide) (by decide) (by decide) (v := (.double z0)) ez0 (pc' := 32) rfl (hb hby d_prog_64_method_5_code_31) ?_
    refine own_dstore X4 hx (Ls' := #[.val (.ref a1), .val (.double FP.dconst0), .second, .val (.ref aM), .val (.int (2 : Int32)), .val (.int (0 : Int32)), .val (.double z0), .second]) (pc' := 34) rfl (hb hby d_prog_64_method_5_code_32) rfl ?_
    refine own_dloadN X4 hx (pc' := 35) rfl (hb hby d_prog_64_method_5_code_34) rfl ?_
    refine own_dload X4 hx (pc' := 37) rfl (hb hby d_prog_64_method_5_code_35) rfl ?_
    refine own_dadd X4 hx (v := (FP.dadd FP.dconst0 z0)) (pc' := 38) rfl (hb hby d_prog_64_method_5_code_37) ac1.2 rfl ?_
    refine own_dstoreN X4 hx (Ls' := #[.val (.ref a1), .val (.double (FP.dadd FP.dconst0 z0)), .second, .val (.ref aM), .val (.int (2 : Int32)), .val (.int (0 : Int32)), .val (.double z0), .second]) (pc' := 39) rfl (hb hby d_prog_64_method_5_code_38) rfl ?_
    refine own_iinc X4 hx (v := (1 : Int32)) (Ls' := #[.val (.ref a1), .val (.double (FP.dadd FP.dconst0 z0)), .second, .val (.ref aM), .val (.int (2 : Int32)), .val (.int (1 : Int32)), .val (.double z0), .second]) (pc' := 42) rfl (hb hby d_prog_64_method_5_code_39) rfl (by decide) rfl ?_
    refine own_goto X4 hx (pc' := 21) (hb hby d_prog_64_method_5_code_42) (by decide) (by decide) ?_
    refine own_iload X4 hx (pc' := 23) rfl (hb hby d_prog_64_method_5_code_21) rfl ?_
    refine own_iload X4 hx (pc' := 25) rfl (hb hby d_prog_64_method_5_code_23) rfl ?_
    refine own_icmpF X4 hx (pc' := 28) rfl (hb hby d_prog_64_method_5_code_25) (XT.ii_ge_f (by decide)) ?_
    refine own_aloadN X4 hx (pc' := 29) rfl (hb hby d_prog_64_method_5_code_28) rfl rfl ?_
    refine own_iload X4 hx (pc' := 31) rfl (hb hby d_prog_64_method_5_code_29) rfl ?_
    refine own_ldD X4 hx hZ e4 I2 (k := 1) (by decide) (by decide) (by decide) (v := (.double z1)) ez1 (pc' := 32) rfl (hb hby d_prog_64_method_5_code_31) ?_
    refine own_dstore X4 hx (Ls' := #[.val (.ref a1), .val (.double (FP.dadd FP.dconst0 z0)), .second, .val (.ref aM), .val (.int (2 : Int32)), .val (.int (1 : Int32)), .val (.double z1), .second]) (pc' := 34) rfl (hb hby d_prog_64_method_5_code_32) rfl ?_
    refine own_dloadN X4 hx (pc' := 35) rfl (hb hby d_prog_64_method_5_code_34) rfl ?_
    refine own_dload X4 hx (pc' := 37) rfl (hb hby d_prog_64_method_5_code_35) rfl ?_
    refine own_dadd X4 hx (v := (FP.dadd (FP.dadd FP.dconst0 z0) z1)) (pc' := 38) rfl (hb hby d_prog_64_method_5_code_37) ac2.2 rfl ?_
    refine own_dstoreN X4 hx (Ls' := #[.val (.ref a1), .val (.double (FP.dadd (FP.dadd FP.dconst0 z0) z1)), .second, .val (.ref aM), .val (.int (2 : Int32)), .val (.int (1 : Int32)), .val (.double z1), .second]) (pc' := 39) rfl (hb hby d_prog_64_method_5_code_38) rfl ?_
    refine own_iinc X4 hx (v := (2 : Int32)) (Ls' := #[.val (.ref a1), .val (.double (FP.dadd (FP.dadd FP.dconst0 z0) z1)), .second, .val (.ref aM), .val (.int (2 : Int32)), .val (.int (2 : Int32)), .val (.double z1), .second]) (pc' := 42) rfl (hb hby d_prog_64_method_5_code_39) rfl (by decide) rfl ?_
    refine own_goto X4 hx (pc' := 21) (hb hby d_prog_64_method_5_code_42) (by decide) (by decide) ?_
    refine own_iload X4 hx (pc' := 23) rfl (hb hby d_prog_64_method_5_code_21) rfl ?_
    refine own_iload X4 hx (pc' := 25) rfl (hb hby d_prog_64_method_5_code_23) rfl ?_
    refine own_icmpT X4 hx (pc' := 45) (hb hby d_prog_64_method_5_code_25) (XT.ii_ge_t (by decide)) (by decide) (by decide) ?_
    refine own_dloadN X4 hx (pc' := 46) rfl (hb hby d_prog_64_method_5_code_45) rfl ?_
    refine own_dret X4 hx hlk hret (hb hby d_prog_64_method_5_code_46) (by decide) (by decide) ?_
    rw [e4]
    exact ⟨_, rfl, ac2.1, N0, rfl⟩
  · obtain ⟨z0, ez0, dz0⟩ := hD 0 (by decide)
    have ac1 := own_addI (k := own_sum gm 1) (show DInt (own_sum gm 0) FP.dconst0 from own_dc0) dz0 rfl (own_sumN hg (by decide))
    obtain ⟨z1, ez1, dz1⟩ := hD 1 (by decide)
    have ac2 := own_addI (k := own_sum gm 2) ac1.1 dz1 rfl (own_sumN hg (by decide))
    obtain ⟨z2, ez2, dz2⟩ := hD 2 (by decide)
    have ac3 := own_addI (k := own_sum gm 3) ac2.1 dz2 rfl (own_sumN hg (by decide))
    refine own_dconst0 X0 hx (v := FP.dconst0) (pc' := 1) rfl (hb hby d_prog_64_method_5_code_0) rfl ?_
    refine own_dstoreN X0 hx (Ls' := #[.val (.ref a1), .val (.double FP.dconst0), .second, .unset, .unset, .unset, .unset, .unset]) (pc' := 2) rfl (hb hby d_prog_64_method_5_code_1) rfl ?_
    refine own_aloadN X0 hx (pc' := 3) rfl (hb hby d_prog_64_method_5_code_2) rfl rfl ?_
    refine own_getF X0 hx hZ hown (host := "") (Or.inl (hw _ (List.mem_of_getElem? (i := 19) rfl))) Via.refl e0 I1 (pc' := 6) rfl (hb hby d_prog_64_method_5_code_3) ?_
    intro T5 X5 e5
    refine own_ifnullF X5 hx (pc' := 9) rfl (hb hby d_prog_64_method_5_code_6) ?_
    refine own_aloadN X5 hx (pc' := 10) rfl (hb hby d_prog_64_method_5_code_9) rfl rfl ?_
    refine own_getF X5 hx hZ hown (host := "") (Or.inl (hw _ (List.mem_of_getElem? (i := 19) rfl))) Via.refl e5 I1 (pc' := 13) rfl (hb hby d_prog_64_method_5_code_10) ?_
    intro T6 X6 e6
    refine own_astoreN X6 hx (Ls' := #[.val (.ref a1), .val (.double FP.dconst0), .second, .val (.ref aM), .unset, .unset, .unset, .unset]) (pc' := 14) rfl (hb hby d_prog_64_method_5_code_13) rfl rfl ?_
    refine own_aloadN X6 hx (pc' := 15) rfl (hb hby d_prog_64_method_5_code_14) rfl rfl ?_
    refine own_alen X6 hx hZ e6 I2 (v := (3 : Int32)) (by decide) (pc' := 16) rfl (hb hby d_prog_64_method_5_code_15) ?_
    refine own_istore X6 hx (Ls' := #[.val (.ref a1), .val (.double FP.dconst0), .second, .val (.ref aM), .val (.int (3 : Int32)), .unset, .unset, .unset]) (pc' := 18) rfl (hb hby d_prog_64_method_5_code_16) rfl ?_
    refine own_iconst X6 hx (v := (0 : Int32)) (pc' := 19) rfl (hb hby d_prog_64_method_5_code_18) rfl ?_
    refine own_istore X6 hx (Ls' := #[.val (.ref a1), .val (.double FP.dconst0), .second, .val (.ref aM), .val (.int (3 : Int32)), .val (.int (0 : Int32)), .unset, .unset]) (pc' := 21) rfl (hb hby d_prog_64_method_5_code_19) rfl ?_
    refine own_iload X6 hx (pc' := 23) rfl (hb hby d_prog_64_method_5_code_21) rfl ?_
    refine own_iload X6 hx (pc' := 25) rfl (hb hby d_prog_64_method_5_code_23) rfl ?_
    refine own_icmpF X6 hx (pc' := 28) rfl (hb hby d_prog_64_method_5_code_25) (XT.ii_ge_f (by decide)) ?_
    refine own_aloadN X6 hx (pc' := 29) rfl (hb hby d_prog_64_method_5_code_28) rfl rfl ?_
    refine own_iload X6 hx (pc' := 31) rfl (hb hby d_prog_64_method_5_code_29) rfl ?_
    refine own_ldD X6 hx hZ e6 I2 (k := 0) (by decide) (by decide) (by decide) (v := (.double z0)) ez0 (pc' := 32) rfl (hb hby d_prog_64_method_5_code_31) ?_
    refine own_dstore X6 hx (Ls' := #[.val (.ref a1), .val (.double FP.dconst0), .second, .val (.ref aM), .val (.int (3 : Int32)), .val (.int (0 : Int32)), .val (.double z0), .second]) (pc' := 34) rfl (hb hby d_prog_64_method_5_code_32) rfl ?_
    refine own_dloadN X6 hx (pc' := 35) rfl (hb hby d_prog_64_method_5_code_34) rfl ?_
    refine own_dload X6 hx (pc' := 37) rfl (hb hby d_prog_64_method_5_code_35) rfl ?_
    refine own_dadd X6 hx (v := (FP.dadd FP.dconst0 z0)) (pc' := 38) rfl (hb hby d_prog_64_method_5_code_37) ac1.2 rfl ?_
    refine own_dstoreN X6 hx (Ls' := #[.val (.ref a1), .val (.double (FP.dadd FP.dconst0 z0)), .second, .val (.ref aM), .val (.int (3 : Int32)), .val (.int (0 : Int32)), .val (.double z0), .second]) (pc' := 39) rfl (hb hby d_prog_64_method_5_code_38) rfl ?_
    refine own_iinc X6 hx (v := (1 : Int32)) (Ls' := #[.val (.ref a1), .val (.double (FP.dadd FP.dconst0 z0)), .second, .val (.ref aM), .val (.int (3 : Int32)), .val (.int (1 : Int32)), .val (.double z0), .second]) (pc' := 42) rfl (hb hby d_prog_64_method_5_code_39) rfl (by decide) rfl ?_
    refine own_goto X6 hx (pc' := 21) (hb hby d_prog_64_method_5_code_42) (by decide) (by decide) ?_
    refine own_iload X6 hx (pc' := 23) rfl (hb hby d_prog_64_method_5_code_21) rfl ?_
    refine own_iload X6 hx (pc' := 25) rfl (hb hby d_prog_64_method_5_code_23) rfl ?_
    refine own_icmpF X6 hx (pc' := 28) rfl (hb hby d_prog_64_method_5_code_25) (XT.ii_ge_f (by decide)) ?_
    refine own_aloadN X6 hx (pc' := 29) rfl (hb hby d_prog_64_method_5_code_28) rfl rfl ?_
    refine own_iload X6 hx (pc' := 31) rfl (hb hby d_prog_64_method_5_code_29) rfl ?_
    refine own_ldD X6 hx hZ e6 I2 (k := 1) (by decide) (by decide) (by decide) (v := (.double z1)) ez1 (pc' := 32) rfl (hb hby d_prog_64_method_5_code_31) ?_
    refine own_dstore X6 hx (Ls' := #[.val (.ref a1), .val (.double (FP.dadd FP.dconst0 z0)), .second, .val (.ref aM), .val (.int (3 : Int32)), .val (.int (1 : Int32)), .val (.double z1), .second]) (pc' := 34) rfl (hb hby d_prog_64_method_5_code_32) rfl ?_
    refine own_dloadN X6 hx (pc' := 35) rfl (hb hby d_prog_64_method_5_code_34) rfl ?_
    refine own_dload X6 hx (pc' := 37) rfl (hb hby d_prog_64_method_5_code_35) rfl ?_
    refine own_dadd X6 hx (v := (FP.dadd (FP.dadd FP.dconst0 z0) z1)) (pc' := 38) rfl (hb hby d_prog_64_method_5_code_37) ac2.2 rfl ?_
    refine own_dstoreN X6 hx (Ls' := #[.val (.ref a1), .val (.double (FP.dadd (FP.dadd FP.dconst0 z0) z1)), .second, .val (.ref aM), .val (.int (3 : Int32)), .val (.int (1 : Int32)), .val (.double z1), .second]) (pc' := 39) rfl (hb hby d_prog_64_method_5_code_38) rfl ?_
    refine own_iinc X6 hx (v := (2 : Int32)) (Ls' := #[.val (.ref a1), .val (.double (FP.dadd (FP.dadd FP.dconst0 z0) z1)), .second, .val (.ref aM), .val (.int (3 : Int32)), .val (.int (2 : Int32)), .val (.double z1), .second]) (pc' := 42) rfl (hb hby d_prog_64_method_5_code_39) rfl (by decide) rfl ?_
    refine own_goto X6 hx (pc' := 21) (hb hby d_prog_64_method_5_code_42) (by decide) (by decide) ?_
    refine own_iload X6 hx (pc' := 23) rfl (hb hby d_prog_64_method_5_code_21) rfl ?_
    refine own_iload X6 hx (pc' := 25) rfl (hb hby d_prog_64_method_5_code_23) rfl ?_
    refine own_icmpF X6 hx (pc' := 28) rfl (hb hby d_prog_64_method_5_code_25) (XT.ii_ge_f (by decide)) ?_
    refine own_aloadN X6 hx (pc' := 29) rfl (hb hby d_prog_64_method_5_code_28) rfl rfl ?_
    refine own_iload X6 hx (pc' := 31) rfl (hb hby d_prog_64_method_5_code_29) rfl ?_
    refine own_ldD X6 hx hZ e6 I2 (k := 2) (by decide) (by decide) (by decide) (v := (.double z2)) ez2 (pc' := 32) rfl (hb hby d_prog_64_method_5_code_31) ?_
    refine own_dstore X6 hx (Ls' := #[.val (.ref a1), .val (.double (FP.dadd (FP.dadd FP.dconst0 z0) z1)), .second, .val (.ref aM), .val (.int (3 : Int32)), .val (.int (2 : Int32)), .val (.double z2), .second]) (pc' := 34) rfl (hb hby d_prog_64_method_5_code_32) rfl ?_
    refine own_dloadN X6 hx (pc' := 35) rfl (hb hby d_prog_64_method_5_code_34) rfl ?_
    refine own_dload X6 hx (pc' := 37) rfl (hb hby d_prog_64_method_5_code_35) rfl ?_
    refine own_dadd X6 hx (v := (FP.dadd (FP.dadd (FP.dadd FP.dconst0 z0) z1) z2)) (pc' := 38) rfl (hb hby d_prog_64_method_5_code_37) ac3.2 rfl ?_
    refine own_dstoreN X6 hx (Ls' := #[.val (.ref a1), .val (.double (FP.dadd (FP.dadd (FP.dadd FP.dconst0 z0) z1) z2)), .second, .val (.ref aM), .val (.int (3 : Int32)), .val (.int (2 : Int32)), .val (.double z2), .second]) (pc' := 39) rfl (hb hby d_prog_64_method_5_code_38) rfl ?_
    refine own_iinc X6 hx (v := (3 : Int32)) (Ls' := #[.val (.ref a1), .val (.double (FP.dadd (FP.dadd (FP.dadd FP.dconst0 z0) z1) z2)), .second, .val (.ref aM), .val (.int (3 : Int32)), .val (.int (3 : Int32)), .val (.double z2), .second]) (pc' := 42) rfl (hb hby d_prog_64_method_5_code_39) rfl (by decide) rfl ?_
    refine own_goto X6 hx (pc' := 21) (hb hby d_prog_64_method_5_code_42) (by decide) (by decide) ?_
    refine own_iload X6 hx (pc' := 23) rfl (hb hby d_prog_64_method_5_code_21) rfl ?_
    refine own_iload X6 hx (pc' := 25) rfl (hb hby d_prog_64_method_5_code_23) rfl ?_
    refine own_icmpT X6 hx (pc' := 45) (hb hby d_prog_64_method_5_code_25) (XT.ii_ge_t (by decide)) (by decide) (by decide) ?_
    refine own_dloadN X6 hx (pc' := 46) rfl (hb hby d_prog_64_method_5_code_45) rfl ?_
    refine own_dret X6 hx hlk hret (hb hby d_prog_64_method_5_code_46) (by decide) (by decide) ?_
    rw [e6]
    exact ⟨_, rfl, ac3.1, N0, rfl⟩
  · obtain ⟨z0, ez0, dz0⟩ := hD 0 (by decide)
    have ac1 := own_addI (k := own_sum gm 1) (show DInt (own_sum gm 0) FP.dconst0 from own_dc0) dz0 rfl (own_sumN hg (by decide))
    obtain ⟨z1, ez1, dz1⟩ := hD 1 (by decide)
    have ac2 := own_addI (k := own_sum gm 2) ac1.1 dz1 rfl (own_sumN hg (by decide))
    obtain ⟨z2, ez2, dz2⟩ := hD 2 (by decide)
    have ac3 := own_addI (k := own_sum gm 3) ac2.1 dz2 rfl (own_sumN hg (by decide))
    obtain ⟨z3, ez3, dz3⟩ := hD 3 (by decide)
    have ac4 := own_addI (k := own_sum gm 4) ac3.1 dz3 rfl (own_sumN hg (by decide))
    refine own_dconst0 X0 hx (v := FP.dconst0) (pc' := 1) rfl (hb hby d_prog_64_method_5_code_0) rfl ?_
    refine own_dstoreN X0 hx (Ls' := #[.val (.ref a1), .val (.double FP.dconst0), .second, .unset, .unset, .unset, .unset, .unset]) (pc' := 2) rfl (hb hby d_prog_64_method_5_code_1) rfl ?_
    refine own_aloadN X0 hx (pc' := 3) rfl (hb hby d_prog_64_method_5_code_2) rfl rfl ?_
    refine own_getF X0 hx hZ hown (host := "") (Or.inl (hw _ (List.mem_of_getElem? (i := 19) rfl))) Via.refl e0 I1 (pc' := 6) rfl (hb hby d_prog_64_method_5_code_3) ?_
    intro T7 X7 e7
    refine own_ifnullF X7 hx (pc' := 9) rfl (hb hby d_prog_64_method_5_code_6) ?_
    refine own_aloadN X7 hx (pc' := 10) rfl (hb hby d_prog_64_method_5_code_9) rfl rfl ?_
    refine own_getF X7 hx hZ hown (host := "") (Or.inl (hw _ (List.mem_of_getElem? (i := 19) rfl))) Via.refl e7 I1 (pc' := 13) rfl (hb hby d_prog_64_method_5_code_10) ?_
    intro T8 X8 e8
    refine own_astoreN X8 hx (Ls' := #[.val (.ref a1), .val (.double FP.dconst0), .second, .val (.ref aM), .unset, .unset, .unset, .unset]) (pc' := 14) rfl (hb hby d_prog_64_method_5_code_13) rfl rfl ?_
    refine own_aloadN X8 hx (pc' := 15) rfl (hb hby d_prog_64_method_5_code_14) rfl rfl ?_
    refine own_alen X8 hx hZ e8 I2 (v := (4 : Int32)) (by decide) (pc' := 16) rfl (hb hby d_prog_64_method_5_code_15) ?_
    refine own_istore X8 hx (Ls' := #[.val (.ref a1), .val (.double FP.dconst0), .second, .val (.ref aM), .val (.int (4 : Int32)), .unset, .unset, .unset]) (pc' := 18) rfl (hb hby d_prog_64_method_5_code_16) rfl ?_
    refine own_iconst X8 hx (v := (0 : Int32)) (pc' := 19) rfl (hb hby d_prog_64_method_5_code_18) rfl ?_
    refine own_istore X8 hx (Ls' := #[.val (.ref a1), .val (.double FP.dconst0), .second, .val (.ref aM), .val (.int (4 : Int32)), .val (.int (0 : Int32)), .unset, .unset]) (pc' := 21) rfl (hb hby d_prog_64_method_5_code_19) rfl ?_
    refine own_iload X8 hx (pc' := 23) rfl (hb hby d_prog_64_method_5_code_21) rfl ?_
    refine own_iload X8 hx (pc' := 25) rfl (hb hby d_prog_64_method_5_code_23) rfl ?_
    refine own_icmpF X8 hx (pc' := 28) rfl (hb hby d_prog_64_method_5_code_25) (XT.ii_ge_f (by decide)) ?_
    refine own_aloadN X8 hx (pc' := 29) rfl (hb hby d_prog_64_method_5_code_28) rfl rfl ?_
    refine own_iload X8 hx (pc' := 31) rfl (hb hby d_prog_64_method_5_code_29) rfl ?_
    refine own_ldD X8 hx hZ e8 I2 (k := 0) (by decide) (by decide) (by decide) (v := (.double z0)) ez0 (pc' := 32) rfl (hb hby d_prog_64_method_5_code_31) ?_
    refine own_dstore X8 hx (Ls' := #[.val (.ref a1), .val (.double FP.dconst0), .second, .val (.ref aM), .val (.int (4 : Int32)), .val (.int (0 : Int32)), .val (.double z0), .second]) (pc' := 34) rfl (hb hby d_prog_64_method_5_code_32) rfl ?_
    refine own_dloadN X8 hx (pc' := 35) rfl (hb hby d_prog_64_method_5_code_34) rfl ?_
    refine own_dload X8 hx (pc' := 37) rfl (hb hby d_prog_64_method_5_code_35) rfl ?_
    refine own_dadd X8 hx (v := (FP.dadd FP.dconst0 z0)) (pc' := 38) rfl (hb hby d_prog_64_method_5_code_37) ac1.2 rfl ?_
    refine own_dstoreN X8 hx (Ls' := #[.val (.ref a1), .val (.double (FP.dadd FP.dconst0 z0)), .second, .val (.ref aM), .val (.int (4 : Int32)), .val (.int (0 : Int32)), .val (.double z0), .second]) (pc' := 39) rfl (hb hby d_prog_64_method_5_code_38) rfl ?_
    refine own_iinc X8 hx (v := (1 : Int32)) (Ls' := #[.val (.ref a1), .val (.double (FP.dadd FP.dconst0 z0)), .second, .val (.ref aM), .val (.int (4 : Int32)), .val (.int (1 : Int32)), .val (.double z0), .second]) (pc' := 42) rfl (hb hby d_prog_64_method_5_code_39) rfl (by decide) rfl ?_
    refine own_goto X8 hx (pc' := 21) (hb hby d_prog_64_method_5_code_42) (by decide) (by decide) ?_
    refine own_iload X8 hx (pc' := 23) rfl (hb hby d_prog_64_method_5_code_21) rfl ?_
    refine own_iload X8 hx (pc' := 25) rfl (hb hby d_prog_64_method_5_code_23) rfl ?_
    refine own_icmpF X8 hx (pc' := 28) rfl (hb hby d_prog_64_method_5_code_25) (XT.ii_ge_f (by decide)) ?_
    refine own_aloadN X8 hx (pc' := 29) rfl (hb hby d_prog_64_method_5_code_28) rfl rfl ?_
    refine own_iload X8 hx (pc' := 31) rfl (hb hby d_prog_64_method_5_code_29) rfl ?_
    refine own_ldD X8 hx hZ e8 I2 (k := 1) (by decide) (by decide) (by decide) (v := (.double z1)) ez1 (pc' := 32) rfl (hb hby d_prog_64_method_5_code_31) ?_
    refine own_dstore X8 hx (Ls' := #[.val (.ref a1), .val (.double (FP.dadd FP.dconst0 z0)), .second, .val (.ref aM), .val (.int (4 : Int32)), .val (.int (1 : Int32)), .val (.double z1), .second]) (pc' := 34) rfl (hb hby d_prog_64_method_5_code_32) rfl ?_
    refine own_dloadN X8 hx (pc' := 35) rfl (hb hby d_prog_64_method_5_code_34) rfl ?_
    refine own_dload X8 hx (pc' := 37) rfl (hb hby d_prog_64_method_5_code_35) rfl ?_
    refine own_dadd X8 hx (v := (FP.dadd (FP.dadd FP.dconst0 z0) z1)) (pc' := 38) rfl (hb hby d_prog_64_method_5_code_37) ac2.2 rfl ?_
    refine own_dstoreN X8 hx (Ls' := #[.val (.ref a1), .val (.double (FP.dadd (FP.dadd FP.dconst0 z0) z1)), .second, .val (.ref aM), .val (.int (4 : Int32)), .val (.int (1 : Int32)), .val (.double z1), .second]) (pc' := 39) rfl (hb hby d_prog_64_method_5_code_38) rfl ?_
    refine own_iinc X8 hx (v := (2 : Int32)) (Ls' := #[.val (.ref a1), .val (.double (FP.dadd (FP.dadd FP.dconst0 z0) z1)), .second, .val (.ref aM), .val (.int (4 : Int32)), .val (.int (2 : Int32)), .val (.double z1), .second]) (pc' := 42) rfl (hb hby d_prog_64_method_5_code_39) rfl (by decide) rfl ?_
    refine own_goto X8 hx (pc' := 21) (hb hby d_prog_64_method_5_code_42) (by decide) (by decide) ?_
    refine own_iload X8 hx (pc' := 23) rfl (hb hby d_prog_64_method_5_code_21) rfl ?_
    refine own_iload X8 hx (pc' := 25) rfl (hb hby d_prog_64_method_5_code_23) rfl ?_
    refine own_icmpF X8 hx (pc' := 28) rfl (hb hby d_prog_64_method_5_code_25) (XT.ii_ge_f (by decide)) ?_
    refine own_aloadN X8 hx (pc' := 29) rfl (hb hby d_prog_64_method_5_code_28) rfl rfl ?_
    refine own_iload X8 hx (pc' := 31) rfl (hb hby d_prog_64_method_5_code_29) rfl ?_
    refine own_ldD X8 hx hZ e8 I2 (k := 2) (by decide) (by decide) (by decide) (v := (.double z2)) ez2 (pc' := 32) rfl (hb hby d_prog_64_method_5_code_31) ?_
    refine own_dstore X8 hx (Ls' := #[.val (.ref a1), .val (.double (FP.dadd (FP.dadd FP.dconst0 z0) z1)), .second, .val (.ref aM), .val (.int (4 : Int32)), .val (.int (2 : Int32)), .val (.double z2), .second]) (pc' := 34) rfl (hb hby d_prog_64_method_5_code_32) rfl ?_
    refine own_dloadN X8 hx (pc' := 35) rfl (hb hby d_prog_64_method_5_code_34) rfl ?_
    refine own_dload X8 hx (pc' := 37) rfl (hb hby d_prog_64_method_5_code_35) rfl ?_
    refine own_dadd X8 hx (v := (FP.dadd (FP.dadd (FP.dadd FP.dconst0 z0) z1) z2)) (pc' := 38) rfl (hb hby d_prog_64_method_5_code_37) ac3.2 rfl ?_
    refine own_dstoreN X8 hx (Ls' := #[.val (.ref a1), .val (.double (FP.dadd (FP.dadd (FP.dadd FP.dconst0 z0) z1) z2)), .second, .val (.ref aM), .val (.int (4 : Int32)), .val (.int (2 : Int32)), .val (.double z2), .second]) (pc' := 39) rfl (hb hby d_prog_64_method_5_code_38) rfl ?_
    refine own_iinc X8 hx (v := (3 : Int32)) (Ls' := #[.val (.ref a1), .val (.double (FP.dadd (FP.dadd (FP.dadd FP.dconst0 z0) z1) z2)), .second, .val (.ref aM), .val (.int (4 : Int32)), .val (.int (3 : Int32)), .val (.double z2), .second]) (pc' := 42) rfl (hb hby d_prog_64_method_5_code_39) rfl (by decide) rfl ?_
    refine own_goto X8 hx (pc' := 21) (hb hby d_prog_64_method_5_code_42) (by decide) (by decide) ?_
    refine own_iload X8 hx (pc' := 23) rfl (hb hby d_prog_64_method_5_code_21) rfl ?_
    refine own_iload X8 hx (pc' := 25) rfl (hb hby d_prog_64_method_5_code_23) rfl ?_
    refine own_icmpF X8 hx (pc' := 28) rfl (hb hby d_prog_64_method_5_code_25) (XT.ii_ge_f (by decide)) ?_
    refine own_aloadN X8 hx (pc' := 29) rfl (hb hby d_prog_64_method_5_code_28) rfl rfl ?_
    refine own_iload X8 hx (pc' := 31) rfl (hb hby d_prog_64_method_5_code_29) rfl ?_
    refine own_ldD X8 hx hZ e8 I2 (k := 3) (by decide) (by decide) (by decide) (v := (.double z3)) ez3 (pc' := 32) rfl (hb hby d_prog_64_method_5_code_31) ?_
    refine own_dstore X8 hx (Ls' := #[.val (.ref a1), .val (.double (FP.dadd (FP.dadd (FP.dadd FP.dconst0 z0) z1) z2)), .second, .val (.ref aM), .val (.int (4 : Int32)), .val (.int (3 : Int32)), .val (.double z3), .second]) (pc' := 34) rfl (hb hby d_prog_64_method_5_code_32) rfl ?_
    refine own_dloadN X8 hx (pc' := 35) rfl (hb hby d_prog_64_method_5_code_34) rfl ?_
    refine own_dload X8 hx (pc' := 37) rfl (hb hby d_prog_64_method_5_code_35) rfl ?_
    refine own_dadd X8 hx (v := (FP.dadd (FP.dadd (FP.dadd (FP.dadd FP.dconst0 z0) z1) z2) z3)) (pc' := 38) rfl (hb hby d_prog_64_method_5_code_37) ac4.2 rfl ?_
    refine own_dstoreN X8 hx (Ls' := #[.val (.ref a1), .val (.double (FP.dadd (FP.dadd (FP.dadd (FP.dadd FP.dconst0 z0) z1) z2) z3)), .second, .val (.ref aM), .val (.int (4 : Int32)), .val (.int (3 : Int32)), .val (.double z3), .second]) (pc' := 39) rfl (hb hby d_prog_64_method_5_code_38) rfl ?_
    refine own_iinc X8 hx (v := (4 : Int32)) (Ls' := #[.val (.ref a1), .val (.double (FP.dadd (FP.dadd (FP.dadd (FP.dadd FP.dconst0 z0) z1) z2) z3)), .second, .val (.ref aM), .val (.int (4 : Int32)), .val (.int (4 : Int32)), .val (.double z3), .second]) (pc' := 42) rfl (hb hby d_prog_64_method_5_code_39) rfl (by decide) rfl ?_
    refine own_goto X8 hx (pc' := 21) (hb hby d_prog_64_method_5_code_42) (by decide) (by decide) ?_
    refine own_iload X8 hx (pc' := 23) rfl (hb hby d_prog_64_method_5_code_21) rfl ?_
    refine own_iload X8 hx (pc' := 25) rfl (hb hby d_prog_64_method_5_code_23) rfl ?_
    refine own_icmpT X8 hx (pc' := 45) (hb hby d_prog_64_method_5_code_25) (XT.ii_ge_t (by decide)) (by decide) (by decide) ?_
    refine own_dloadN X8 hx (pc' := 46) rfl (hb hby d_prog_64_method_5_code_45) rfl ?_
    refine own_dret X8 hx hlk hret (hb hby d_prog_64_method_5_code_46) (by decide) (by decide) ?_
    rw [e8]
    exact ⟨_, rfl, ac4.1, N0, rfl⟩
theorem ef_rm_add1 (m : MethodId) (a1 : Addr) (p2 : Int32) (p3 : UInt64) : entryFrame m #[(.ref a1), (.int p2), (.double p3)] 8 = mkF m 0 #[.val (.ref a1), .val (.int p2), .val (.double p3), .second, .unset, .unset, .unset, .unset] [] := by first | (simp [entryFrame, mkF, argsToLocals, Value.category]; done) | rfl
def K_rm_add1 (aS : Addr) (aC : Addr) (n : Nat) (fs : Nat → Value) (fc : Nat → Value) (B : Nat) (i : Int) (kk : Nat) (Z : State) (h0 : Heap) (n0 : Nat) (a1 : Addr) (p2 : Int32) (p3 : UInt64) (v : Option Value) (h : Heap) (L : List Loc) : Prop := v = none ∧ Fr n0 L ∧ Keep h0 h [aS, aC] ∧ ∃ fs' fc', own_Arr Z h aS .double n fs' ∧ own_DB fs' n (B + 2 ^ 31) ∧ own_Arr Z h aC .double n fc' ∧ own_DB fc' n 0
theorem d_prog_64_method_3_code_0 : decode prog_64_method_3_code 0 = .ok (.aload_n 0, 1) := by decide +kernel
theorem d_prog_64_method_3_code_1 : decode prog_64_method_3_code 1 = .ok (.getfield 7, 3) := by decide +kernel
theorem d_prog_64_method_3_code_4 : decode prog_64_method_3_code 4 = .ok (.iload_n 1, 1) := by decide +kernel
theorem d_prog_64_method_3_code_5 : decode prog_64_method_3_code 5 = .ok (.daload, 1) := by decide +kernel
theorem d_prog_64_method_3_code_6 : decode prog_64_method_3_code 6 = .ok (.dstore 4, 2) := by decide +kernel
theorem d_prog_64_method_3_code_8 : decode prog_64_method_3_code 8 = .ok (.dload 4, 2) := by decide +kernel
theorem d_prog_64_method_3_code_10 : decode prog_64_method_3_code 10 = .ok (.dload_n 2, 1) := by decide +kernel
theorem d_prog_64_method_3_code_11 : decode prog_64_method_3_code 11 = .ok (.dadd, 1) := by decide +kernel
theorem d_prog_64_method_3_code_12 : decode prog_64_method_3_code 12 = .ok (.dstore 6, 2) := by decide +kernel
theorem d_prog_64_method_3_code_14 : decode prog_64_method_3_code 14 = .ok (.aload_n 0, 1) := by decide +kernel
theorem d_prog_64_method_3_code_15 : decode prog_64_method_3_code 15 = .ok (.getfield 13, 3) := by decide +kernel
theorem d_prog_64_method_3_code_18 : decode prog_64_method_3_code 18 = .ok (.iload_n 1, 1) := by decide +kernel
theorem d_prog_64_method_3_code_19 : decode prog_64_method_3_code 19 = .ok (.dup2, 1) := by decide +kernel
theorem d_prog_64_method_3_code_20 : decode prog_64_method_3_code 20 = .ok (.daload, 1) := by decide +kernel
theorem d_prog_64_method_3_code_21 : decode prog_64_method_3_code 21 = .ok (.dload 4, 2) := by decide +kernel
theorem d_prog_64_method_3_code_23 : decode prog_64_method_3_code 23 = .ok (.dload_n 2, 1) := by decide +kernel
theorem d_prog_64_method_3_code_24 : decode prog_64_method_3_code 24 = .ok (.dload 6, 2) := by decide +kernel
theorem d_prog_64_method_3_code_26 : decode prog_64_method_3_code 26 = .ok (.invokestatic 16, 3) := by decide +kernel
theorem pd__DDD_D : parseMethodDescriptor "(DDD)D" = some ⟨[.double, .double, .double], some .double⟩ := by decide +kernel
theorem d_prog_64_method_3_code_29 : decode prog_64_method_3_code 29 = .ok (.dadd, 1) := by decide +kernel
theorem d_prog_64_method_3_code_30 : decode prog_64_method_3_code 30 = .ok (.dastore, 1) := by decide +kernel
theorem d_prog_64_method_3_code_31 : decode prog_64_method_3_code 31 = .ok (.aload_n 0, 1) := by decide +kernel
theorem d_prog_64_method_3_code_32 : decode prog_64_method_3_code 32 = .ok (.getfield 7, 3) := by decide +kernel
theorem d_prog_64_method_3_code_35 : decode prog_64_method_3_code 35 = .ok (.iload_n 1, 1) := by decide +kernel
theorem d_prog_64_method_3_code_36 : decode prog_64_method_3_code 36 = .ok (.dload 6, 2) := by decide +kernel
theorem d_prog_64_method_3_code_38 : decode prog_64_method_3_code 38 = .ok (.dastore, 1) := by decide +kernel
theorem d_prog_64_method_3_code_39 : decode prog_64_method_3_code 39 = .ok (.return_, 1) := by decide +kernel
set_option maxRecDepth 65536 in
set_option maxHeartbeats 40000000 in
theorem rm_add1 (l : Launch) (Z : State) (a0 : Array Value) (hw : ∀ d ∈ tables_1, d.before a0 Z = true) (ws : List Jvm.Cond) (aS : Addr) (aC : Addr) (n : Nat) (fs : Nat → Value) (fc : Nat → Value) (B : Nat) (i : Int) (kk : Nat) (a1 : Addr) (p2 : Int32) (p3 : UInt64) (h0 : Heap) (n0 : Nat) (Z0 : n0 ≤ h0.size) (I0 : Exa Z h0 a1 "com/example/ferrule/ferrule/matrix/CompensatedSums") (I1 : Fld Z h0 a1 "com/example/ferrule/ferrule/matrix/CompensatedSums" "sums" "[D" (.ref aS)) (I2 : Fld Z h0 a1 "com/example/ferrule/ferrule/matrix/CompensatedSums" "compensations" "[D" (.ref aC)) (I3 : own_Arr Z h0 aS .double n fs) (I4 : own_Arr Z h0 aC .double n fc) (ge_aS : n0 ≤ aS) (ge_aC : n0 ≤ aC) (ne_aS_aC : aS ≠ aC) (ne_a1_aS : a1 ≠ aS) (ne_a1_aC : a1 ≠ aC) (hS : own_DB fs n B) (hC : own_DB fc n 0) (hB : B ≤ 2 ^ 40) (hi : DInt i p3) (hib : i.natAbs ≤ 2 ^ 31) (hk0 : ¬ p2 < 0) (hk1 : p2.toNatClampNeg = kk) (hk2 : kk < n) :
    MetFree l (⟨"com/example/ferrule/ferrule/matrix/CompensatedSums", "add", "(ID)V"⟩ : MethodName) (head1 (Jvm.Cond.code (⟨"com/example/ferrule/ferrule/matrix/CompensatedSums", "add", "(ID)V"⟩ : MethodName) prog_64_method_3_code 8 none :: ws) ({ frames := 2, cells := 0, slots := 0, locals := 36 } : Room)) (fun a U => a = #[(.ref a1), (.int p2), (.double p3)] ∧ Z.Warmed39 U.vm ∧ U.heap = h0) (fun _ _ _ _ _ => True) (fun _ U o U' => ∃ v L, o = .returned v ∧ (K_rm_add1 aS aC n fs fc B i kk Z h0 n0 a1 p2 p3) v U'.heap L ∧ FrameEnd U o U' L ({ frames := 2, cells := 0, slots := 0, locals := 36 } : Room).cells ({ frames := 2, cells := 0, slots := 0, locals := 36 } : Room).slots) := by
  refine own_body (plainFor_of_name pn_com_example_ferrule_ferrule_matrix_CompensatedSums) ?_
  intro p e s m below meth c s₁ hx hby hml hown hnm hret hlk hZ X0 e0
  have hown : s.vm.findClass "com/example/ferrule/ferrule/matrix/CompensatedSums" = some m.cls := hown
  have N0 := Fr.nil n0
  rw [ef_rm_add1 m a1 p2 p3]
  have K0 := Keep.refl h0 [aS, aC]
  obtain ⟨x0, u, ex, dx, bx⟩ := hS kk hk2
  obtain ⟨y0, u2, ey, dy, bY⟩ := hC kk hk2
  obtain rfl : u2 = 0 := by omega
  have ss := own_addI dx hi (k := u + i) rfl (by omega)
  refine own_aloadN X0 hx (pc' := 1) rfl (hb hby d_prog_64_method_3_code_0) rfl rfl ?_
  refine own_getF X0 hx hZ hown (host := "") (Or.inl (hw _ (List.mem_of_getElem? (i := 10) rfl))) Via.refl e0 I1 (pc' := 4) rfl (hb hby d_prog_64_method_3_code_1) ?_
  intro T1 X1 e1
  refine own_iloadN X1 hx (pc' := 5) rfl (hb hby d_prog_64_method_3_code_4) rfl ?_
  refine own_ldD X1 hx hZ e1 I3 (k := kk) hk0 hk1 hk2 (v := (.double x0)) ex (pc' := 6) rfl (hb hby d_prog_64_method_3_code_5) ?_
  refine own_dstore X1 hx (Ls' := #[.val (.ref a1), .val (.int p2), .val (.double p3), .second, .val (.double x0), .second, .unset, .unset]) (pc' := 8) rfl (hb hby d_prog_64_method_3_code_6) rfl ?_
  refine own_dload X1 hx (pc' := 10) rfl (hb hby d_prog_64_method_3_code_8) rfl ?_
  refine own_dloadN X1 hx (pc' := 11) rfl (hb hby d_prog_64_method_3_code_10) rfl ?_
  refine own_dadd X1 hx (v := (FP.dadd x0 p3)) (pc' := 12) rfl (hb hby d_prog_64_method_3_code_11) ss.2 rfl ?_
  refine own_dstore X1 hx (Ls' := #[.val (.ref a1), .val (.int p2), .val (.double p3), .second, .val (.double x0), .second, .val (.double (FP.dadd x0 p3)), .second]) (pc' := 14) rfl (hb hby d_prog_64_method_3_code_12) rfl ?_
  refine own_aloadN X1 hx (pc' := 15) rfl (hb hby d_prog_64_method_3_code_14) rfl rfl ?_
  refine own_getF X1 hx hZ hown (host := "") (Or.inl (hw _ (List.mem_of_getElem? (i := 12) rfl))) Via.refl e1 I2 (pc' := 18) rfl (hb hby d_prog_64_method_3_code_15) ?_
  intro T2 X2 e2
  refine own_iloadN X2 hx (pc' := 19) rfl (hb hby d_prog_64_method_3_code_18) rfl ?_
  refine own_dup2 X2 hx (pc' := 20) rfl (hb hby d_prog_64_method_3_code_19) rfl rfl ?_
  refine own_ldD X2 hx hZ e2 I4 (k := kk) hk0 hk1 hk2 (v := (.double y0)) ey (pc' := 21) rfl (hb hby d_prog_64_method_3_code_20) ?_
  refine own_dload X2 hx (pc' := 23) rfl (hb hby d_prog_64_method_3_code_21) rfl ?_
  refine own_dloadN X2 hx (pc' := 24) rfl (hb hby d_prog_64_method_3_code_23) rfl ?_
  refine own_dload X2 hx (pc' := 26) rfl (hb hby d_prog_64_method_3_code_24) rfl ?_
  refine own_callS X2 hx hZ (y := (⟨"com/example/ferrule/ferrule/matrix/CompensatedSum", "error", "(DDD)D"⟩ : MethodName)) hown (hw _ (List.mem_of_getElem? (i := 26) rfl)) (hw _ (List.mem_of_getElem? (i := 27) rfl)) (hw _ (List.mem_of_getElem? (i := 28) rfl)) (hw _ (List.mem_of_getElem? (i := 29) rfl))  (by decide) (rm_err l Z a0 hw [] u i x0 p3 (FP.dadd x0 p3) h0 n0 Z0 dx hi ss.1 ⟨by omega, by omega⟩) (by decide) (W := 4) (by decide) (by decide) (by decide) e2 (by rw [hml]; rfl) (argsL := [(.double x0), (.double p3), (.double (FP.dadd x0 p3))]) (rest := [(.double y0), (.int p2), (.ref aC)]) rfl (lenOf pd__DDD_D rfl) rfl (Nat.le_of_eq rfl) (pc' := 29) rfl (hb hby d_prog_64_method_3_code_26) ?_
  rintro _ T3 L3 X3 ⟨r3, rfl, hr3, N3, e3⟩
  have M3 := Fr.app N0 N3
  show own_Goes p e below T3 (mkF m 29 #[.val (.ref a1), .val (.int p2), .val (.double p3), .second, .val (.double x0), .second, .val (.double (FP.dadd x0 p3)), .second] [(.double r3), (.double y0), (.int p2), (.ref aC)]) _
  refine own_dadd X3 hx (v := (FP.dadd y0 r3)) (pc' := 30) rfl (hb hby d_prog_64_method_3_code_29) (own_addI dy hr3 (k := 0) (by omega) (by decide)).2 rfl ?_
  refine own_stD X3 hx hZ e3 I4 (k := kk) hk0 hk1 hk2 (pc' := 31) rfl (hb hby d_prog_64_method_3_code_30) ?_
  intro T4 h4 X4 e4 W4 A4
  have Siz_5 := own_sizWr W4 Z0
  have Exa_6 := Exa.wr W4 I0
  have Fld_7 := Fld.other W4 I1 (Or.inl ne_a1_aC)
  have Fld_8 := Fld.other W4 I2 (Or.inl ne_a1_aC)
  have Arr_9 := own_Arr.other W4 I3 ne_aS_aC
  have N4 := Fr.snoc X4 M3 ge_aC
  have K4 := Keep.wr K0 W4 (Or.inl (by simp))
  refine own_aloadN X4 hx (pc' := 32) rfl (hb hby d_prog_64_method_3_code_31) rfl rfl ?_
  refine own_getF X4 hx hZ hown (host := "") (Or.inl (hw _ (List.mem_of_getElem? (i := 10) rfl))) Via.refl e4 Fld_7 (pc' := 35) rfl (hb hby d_prog_64_method_3_code_32) ?_
  intro T11 X11 e11
  refine own_iloadN X11 hx (pc' := 36) rfl (hb hby d_prog_64_method_3_code_35) rfl ?_
  refine own_dload X11 hx (pc' := 38) rfl (hb hby d_prog_64_method_3_code_36) rfl ?_
  refine own_stD X11 hx hZ e11 Arr_9 (k := kk) hk0 hk1 hk2 (pc' := 39) rfl (hb hby d_prog_64_method_3_code_38) ?_
  intro T12 h12 X12 e12 W12 A12
  have Siz_13 := own_sizWr W12 Siz_5
  have Exa_14 := Exa.wr W12 Exa_6
  have Fld_15 := Fld.other W12 Fld_7 (Or.inl ne_a1_aS)
  have Fld_16 := Fld.other W12 Fld_8 (Or.inl ne_a1_aS)
  have Arr_18 := own_Arr.other W12 A4 (Ne.symm ne_aS_aC)
  have N12 := Fr.snoc X12 N4 ge_aS
  have K12 := Keep.wr K4 W12 (Or.inl (by simp))
  refine own_ret X12 hx hlk hret (hb hby d_prog_64_method_3_code_39) (by decide) (by decide) ?_
  rw [e12]
  exact ⟨rfl, N12, K12, _, _, A12, own_DB.upd (hS.mono (by omega)) kk ss.1 (by omega), Arr_18, own_DB.upd hC kk (own_addI dy hr3 (k := 0) (by omega) (by decide)).1 (by decide)⟩
theorem ef_rm_addN (m : MethodId) (a1 : Addr) (aV : Addr) (p3 : Int32) : entryFrame m #[(.ref a1), (.ref aV), (.int p3)] 13 = mkF m 0 #[.val (.ref a1), .val (.ref aV), .val (.int p3), .unset, .unset, .unset, .unset, .unset, .unset, .unset, .unset, .unset, .unset] [] := by first | (simp [entryFrame, mkF, argsToLocals, Value.category]; done) | rfl
def K_rm_addN (aS : Addr) (aC : Addr) (n : Nat) (fs : Nat → Value) (fc : Nat → Value) (nn : Int32) (fv : Nat → Value) (wv : Nat → Int64) (B : Nat) (cc : Nat) (Z : State) (h0 : Heap) (n0 : Nat) (a1 : Addr) (aV : Addr) (p3 : Int32) (v : Option Value) (h : Heap) (L : List Loc) : Prop := v = none ∧ Fr n0 L ∧ Keep h0 h [a1, aS, aC] ∧ ∃ aM fs' fc' fm', Fld Z h a1 "com/example/ferrule/ferrule/matrix/CompensatedSums" "sums" "[D" (.ref aS) ∧ Fld Z h a1 "com/example/ferrule/ferrule/matrix/CompensatedSums" "compensations" "[D" (.ref aC) ∧ Fld Z h a1 "com/example/ferrule/ferrule/matrix/CompensatedSums" "magnitudes" "[D" (.ref aM) ∧ own_Arr Z h aS .double n fs' ∧ own_DB fs' n (B + 2 ^ 31) ∧ own_Arr Z h aC .double n fc' ∧ own_DB fc' n 0 ∧ own_Arr Z h aM .double n fm' ∧ own_DA fm' n (own_addG own_zf wv cc) ∧ h0.size ≤ aM
theorem d_prog_64_method_4_code_0 : decode prog_64_method_4_code 0 = .ok (.aload_n 0, 1) := by decide +kernel
theorem d_prog_64_method_4_code_1 : decode prog_64_method_4_code 1 = .ok (.getfield 22, 3) := by decide +kernel
theorem d_prog_64_method_4_code_4 : decode prog_64_method_4_code 4 = .ok (.ifnonnull 14, 3) := by decide +kernel
theorem d_prog_64_method_4_code_7 : decode prog_64_method_4_code 7 = .ok (.aload_n 0, 1) := by decide +kernel
theorem d_prog_64_method_4_code_8 : decode prog_64_method_4_code 8 = .ok (.aload_n 0, 1) := by decide +kernel
theorem d_prog_64_method_4_code_9 : decode prog_64_method_4_code 9 = .ok (.getfield 7, 3) := by decide +kernel
theorem d_prog_64_method_4_code_12 : decode prog_64_method_4_code 12 = .ok (.arraylength, 1) := by decide +kernel
theorem d_prog_64_method_4_code_13 : decode prog_64_method_4_code 13 = .ok (.newarray .double, 2) := by decide +kernel
theorem d_prog_64_method_4_code_15 : decode prog_64_method_4_code 15 = .ok (.putfield 22, 3) := by decide +kernel
theorem d_prog_64_method_4_code_18 : decode prog_64_method_4_code 18 = .ok (.aload_n 0, 1) := by decide +kernel
theorem d_prog_64_method_4_code_19 : decode prog_64_method_4_code 19 = .ok (.getfield 7, 3) := by decide +kernel
theorem d_prog_64_method_4_code_22 : decode prog_64_method_4_code 22 = .ok (.astore_n 3, 1) := by decide +kernel
theorem d_prog_64_method_4_code_23 : decode prog_64_method_4_code 23 = .ok (.aload_n 0, 1) := by decide +kernel
theorem d_prog_64_method_4_code_24 : decode prog_64_method_4_code 24 = .ok (.getfield 13, 3) := by decide +kernel
theorem d_prog_64_method_4_code_27 : decode prog_64_method_4_code 27 = .ok (.astore 4, 2) := by decide +kernel
theorem d_prog_64_method_4_code_29 : decode prog_64_method_4_code 29 = .ok (.aload_n 0, 1) := by decide +kernel
theorem d_prog_64_method_4_code_30 : decode prog_64_method_4_code 30 = .ok (.getfield 22, 3) := by decide +kernel
theorem d_prog_64_method_4_code_33 : decode prog_64_method_4_code 33 = .ok (.astore 5, 2) := by decide +kernel
theorem d_prog_64_method_4_code_35 : decode prog_64_method_4_code 35 = .ok (.iconst 0, 1) := by decide +kernel
theorem d_prog_64_method_4_code_36 : decode prog_64_method_4_code 36 = .ok (.istore 6, 2) := by decide +kernel
theorem d_prog_64_method_4_code_38 : decode prog_64_method_4_code 38 = .ok (.iload 6, 2) := by decide +kernel
theorem d_prog_64_method_4_code_40 : decode prog_64_method_4_code 40 = .ok (.iload_n 2, 1) := by decide +kernel
theorem d_prog_64_method_4_code_41 : decode prog_64_method_4_code 41 = .ok (.if_icmp .ge 64, 3) := by decide +kernel
theorem d_prog_64_method_4_code_105 : decode prog_64_method_4_code 105 = .ok (.return_, 1) := by decide +kernel
theorem d_prog_64_method_4_code_44 : decode prog_64_method_4_code 44 = .ok (.aload_n 3, 1) := by decide +kernel
theorem d_prog_64_method_4_code_45 : decode prog_64_method_4_code 45 = .ok (.iload 6, 2) := by decide +kernel
theorem d_prog_64_method_4_code_47 : decode prog_64_method_4_code 47 = .ok (.daload, 1) := by decide +kernel
theorem d_prog_64_method_4_code_48 : decode prog_64_method_4_code 48 = .ok (.dstore 7, 2) := by decide +kernel
theorem d_prog_64_method_4_code_50 : decode prog_64_method_4_code 50 = .ok (.aload_n 1, 1) := by decide +kernel
theorem d_prog_64_method_4_code_51 : decode prog_64_method_4_code 51 = .ok (.iload 6, 2) := by decide +kernel
theorem d_prog_64_method_4_code_53 : decode prog_64_method_4_code 53 = .ok (.daload, 1) := by decide +kernel
theorem d_prog_64_method_4_code_54 : decode prog_64_method_4_code 54 = .ok (.dstore 9, 2) := by decide +kernel
theorem d_prog_64_method_4_code_56 : decode prog_64_method_4_code 56 = .ok (.dload 7, 2) := by decide +kernel
theorem d_prog_64_method_4_code_58 : decode prog_64_method_4_code 58 = .ok (.dload 9, 2) := by decide +kernel
theorem d_prog_64_method_4_code_60 : decode prog_64_method_4_code 60 = .ok (.dadd, 1) := by decide +kernel
theorem d_prog_64_method_4_code_61 : decode prog_64_method_4_code 61 = .ok (.dstore 11, 2) := by decide +kernel
theorem d_prog_64_method_4_code_63 : decode prog_64_method_4_code 63 = .ok (.aload 4, 2) := by decide +kernel
theorem d_prog_64_method_4_code_65 : decode prog_64_method_4_code 65 = .ok (.iload 6, 2) := by decide +kernel
theorem d_prog_64_method_4_code_67 : decode prog_64_method_4_code 67 = .ok (.dup2, 1) := by decide +kernel
theorem d_prog_64_method_4_code_68 : decode prog_64_method_4_code 68 = .ok (.daload, 1) := by decide +kernel
theorem d_prog_64_method_4_code_69 : decode prog_64_method_4_code 69 = .ok (.dload 7, 2) := by decide +kernel
theorem d_prog_64_method_4_code_71 : decode prog_64_method_4_code 71 = .ok (.dload 9, 2) := by decide +kernel
theorem d_prog_64_method_4_code_73 : decode prog_64_method_4_code 73 = .ok (.dload 11, 2) := by decide +kernel
theorem d_prog_64_method_4_code_75 : decode prog_64_method_4_code 75 = .ok (.invokestatic 25, 3) := by decide +kernel
theorem d_prog_64_method_4_code_78 : decode prog_64_method_4_code 78 = .ok (.dadd, 1) := by decide +kernel
theorem d_prog_64_method_4_code_79 : decode prog_64_method_4_code 79 = .ok (.dastore, 1) := by decide +kernel
theorem d_prog_64_method_4_code_80 : decode prog_64_method_4_code 80 = .ok (.aload_n 3, 1) := by decide +kernel
theorem d_prog_64_method_4_code_81 : decode prog_64_method_4_code 81 = .ok (.iload 6, 2) := by decide +kernel
theorem d_prog_64_method_4_code_83 : decode prog_64_method_4_code 83 = .ok (.dload 11, 2) := by decide +kernel
theorem d_prog_64_method_4_code_85 : decode prog_64_method_4_code 85 = .ok (.dastore, 1) := by decide +kernel
theorem d_prog_64_method_4_code_86 : decode prog_64_method_4_code 86 = .ok (.aload 5, 2) := by decide +kernel
theorem d_prog_64_method_4_code_88 : decode prog_64_method_4_code 88 = .ok (.iload 6, 2) := by decide +kernel
theorem d_prog_64_method_4_code_90 : decode prog_64_method_4_code 90 = .ok (.dup2, 1) := by decide +kernel
theorem d_prog_64_method_4_code_91 : decode prog_64_method_4_code 91 = .ok (.daload, 1) := by decide +kernel
theorem d_prog_64_method_4_code_92 : decode prog_64_method_4_code 92 = .ok (.dload 9, 2) := by decide +kernel
theorem d_prog_64_method_4_code_94 : decode prog_64_method_4_code 94 = .ok (.invokestatic 28, 3) := by decide +kernel
theorem d_prog_64_method_4_code_97 : decode prog_64_method_4_code 97 = .ok (.dadd, 1) := by decide +kernel
theorem d_prog_64_method_4_code_98 : decode prog_64_method_4_code 98 = .ok (.dastore, 1) := by decide +kernel
theorem d_prog_64_method_4_code_99 : decode prog_64_method_4_code 99 = .ok (.iinc 6 1, 3) := by decide +kernel
theorem d_prog_64_method_4_code_102 : decode prog_64_method_4_code 102 = .ok (.goto (-64), 3) := by decide +kernel
set_option maxRecDepth 65536 in
set_option maxHeartbeats 40000000 in
theorem rm_addN (l : Launch) (Z : State) (a0 : Array Value) (hw : ∀ d ∈ tables_1, d.before a0 Z = true) (ws : List Jvm.Cond) (aS : Addr) (aC : Addr) (n : Nat) (fs : Nat → Value) (fc : Nat → Value) (nn : Int32) (fv : Nat → Value) (wv : Nat → Int64) (B : Nat) (cc : Nat) (a1 : Addr) (aV : Addr) (p3 : Int32) (h0 : Heap) (n0 : Nat) (Z0 : n0 ≤ h0.size) (I0 : Exa Z h0 a1 "com/example/ferrule/ferrule/matrix/CompensatedSums") (I1 : Fld Z h0 a1 "com/example/ferrule/ferrule/matrix/CompensatedSums" "sums" "[D" (.ref aS)) (I2 : Fld Z h0 a1 "com/example/ferrule/ferrule/matrix/CompensatedSums" "compensations" "[D" (.ref aC)) (I3 : Fld Z h0 a1 "com/example/ferrule/ferrule/matrix/CompensatedSums" "magnitudes" "[D" .null) (I4 : own_Arr Z h0 aS .double n fs) (I5 : own_Arr Z h0 aC .double n fc) (I6 : own_Arr Z h0 aV .double 4 fv) (ge_a1 : n0 ≤ a1) (ge_aS : n0 ≤ aS) (ge_aC : n0 ≤ aC) (ne_a1_aS : a1 ≠ aS) (ne_a1_aC : a1 ≠ aC) (ne_a1_aV : a1 ≠ aV) (ne_aS_aC : aS ≠ aC) (ne_aV_aS : aV ≠ aS) (ne_aV_aC : aV ≠ aC) (hS : own_DB fs n B) (hC : own_DB fc n 0) (hV : own_DV fv wv) (hB : B ≤ 2 ^ 40) (hcnt : own_cnt p3 cc) (hcn : cc ≤ n) (hl : n.toInt32 = nn) (hl0 : ¬ nn < 0) (hl1 : nn.toNatClampNeg = n) (hl4 : n ≤ 4) :
    MetFree l (⟨"com/example/ferrule/ferrule/matrix/CompensatedSums", "add", "([DI)V"⟩ : MethodName) (head1 (Jvm.Cond.code (⟨"com/example/ferrule/ferrule/matrix/CompensatedSums", "add", "([DI)V"⟩ : MethodName) prog_64_method_4_code 13 none :: ws) ({ frames := 1, cells := 1, slots := 4, locals := 23 } : Room)) (fun a U => a = #[(.ref a1), (.ref aV), (.int p3)] ∧ Z.Warmed39 U.vm ∧ U.heap = h0) (fun _ _ _ _ _ => True) (fun _ U o U' => ∃ v L, o = .returned v ∧ (K_rm_addN aS aC n fs fc nn fv wv B cc Z h0 n0 a1 aV p3) v U'.heap L ∧ FrameEnd U o U' L ({ frames := 1, cells := 1, slots := 4, locals := 23 } : Room).cells ({ frames := 1, cells := 1, slots := 4, locals := 23 } : Room).slots) := by
  refine own_body (plainFor_of_name pn_com_example_ferrule_ferrule_matrix_CompensatedSums) ?_
  intro p e s m below meth c s₁ hx hby hml hown hnm hret hlk hZ X0 e0
  have hown : s.vm.findClass "com/example/ferrule/ferrule/matrix/CompensatedSums" = some m.cls := hown
  have N0 := Fr.nil n0
  rw [ef_rm_addN m a1 aV p3]
  have K0 := Keep.refl h0 [a1, aS, aC]
  refine own_aloadN X0 hx (pc' := 1) rfl (hb hby d_prog_64_method_4_code_0) rfl rfl ?_
  refine own_getF X0 hx hZ hown (host := "") (Or.inl (hw _ (List.mem_of_getElem? (i := 19) rfl))) Via.refl e0 I3 (pc' := 4) rfl (hb hby d_prog_64_method_4_code_1) ?_
  intro T1 X1 e1
  refine own_ifnonnullF X1 hx (pc' := 7) rfl (hb hby d_prog_64_method_4_code_4) ?_
  refine own_aloadN X1 hx (pc' := 8) rfl (hb hby d_prog_64_method_4_code_7) rfl rfl ?_
  refine own_aloadN X1 hx (pc' := 9) rfl (hb hby d_prog_64_method_4_code_8) rfl rfl ?_
  refine own_getF X1 hx hZ hown (host := "") (Or.inl (hw _ (List.mem_of_getElem? (i := 10) rfl))) Via.refl e1 I1 (pc' := 12) rfl (hb hby d_prog_64_method_4_code_9) ?_
  intro T2 X2 e2
  refine own_alen X2 hx hZ e2 I4 (v := nn) hl (pc' := 13) rfl (hb hby d_prog_64_method_4_code_12) ?_
  refine own_newarr X2 hx hZ (aty := .double) (hw _ (List.mem_of_getElem? (i := 0) rfl)) e2 (pc' := 15) rfl (hb hby d_prog_64_method_4_code_13) hl0 (N := n) hl1 (cap := 4) (by rw [hl1]; omega) (by decide) (by decide) (by decide) ?_
  intro T3 h3 X3 e3 E3 A3
  obtain ⟨o3, g3⟩ : ∃ z, z = h0.size := ⟨_, rfl⟩
  rw [← g3] at A3 ⊢
  have ne3_a1 : a1 ≠ o3 := Nat.ne_of_lt (g3 ▸ I0.lt)
  have ne3_aS : aS ≠ o3 := Nat.ne_of_lt (g3 ▸ (own_Arr.lt I4))
  have ne3_aC : aC ≠ o3 := Nat.ne_of_lt (g3 ▸ (own_Arr.lt I5))
  have ne3_aV : aV ≠ o3 := Nat.ne_of_lt (g3 ▸ (own_Arr.lt I6))
  have ge3 : n0 ≤ o3 := g3 ▸ Z0
  have Siz_4 := Nat.le_trans Z0 E3.1
  have Exa_5 := Exa.ext E3 I0
  have Fld_6 := Fld.ext E3 I1
  have Fld_7 := Fld.ext E3 I2
  have Fld_8 := Fld.ext E3 I3
  have Arr_9 := own_Arr.ext E3 I4
  have Arr_10 := own_Arr.ext E3 I5
  have Arr_11 := own_Arr.ext E3 I6
  have K3 := Keep.ext K0 E3
  refine own_putF X3 hx hZ hown (host := "") (Or.inl (hw _ (List.mem_of_getElem? (i := 19) rfl))) Via.refl e3 Fld_8 Exa_5 (Or.inl (hw _ (List.mem_of_getElem? (i := 20) rfl))) (hw _ (List.mem_of_getElem? (i := 2) rfl)) (ty := (.array .double)) (by decide) rfl rfl (pc' := 18) rfl (hb hby d_prog_64_method_4_code_15) ?_
  intro T12 h12 X12 e12 W12
  have F13 := Fld.same W12 Fld_8
  have Siz_14 := own_sizWr W12 Siz_4
  have Exa_15 := Exa.wr W12 Exa_5
  have Fld_16 := Fld.other W12 Fld_6 (Or.inr (slot_ne (Or.inr (hw _ (List.mem_of_getElem? (i := 11) rfl))) (Or.inl (hw _ (List.mem_of_getElem? (i := 20) rfl))) (by decide) (t := (.array .double)) (t' := (.array .double)) (by decide) (by decide)))
  have Fld_17 := Fld.other W12 Fld_7 (Or.inr (slot_ne (Or.inr (hw _ (List.mem_of_getElem? (i := 13) rfl))) (Or.inl (hw _ (List.mem_of_getElem? (i := 20) rfl))) (by decide) (t := (.array .double)) (t' := (.array .double)) (by decide) (by decide)))
  have Arr_19 := own_Arr.other W12 Arr_9 (Ne.symm ne_a1_aS)
  have Arr_20 := own_Arr.other W12 Arr_10 (Ne.symm ne_a1_aC)
  have Arr_21 := own_Arr.other W12 Arr_11 (Ne.symm ne_a1_aV)
  have Arr_22 := own_Arr.other W12 A3 (Ne.symm ne3_a1)
  have N12 := Fr.snoc X12 N0 ge_a1
  have K12 := Keep.wr K3 W12 (Or.inl (by simp))
  refine own_aloadN X12 hx (pc' := 19) rfl (hb hby d_prog_64_method_4_code_18) rfl rfl ?_
  refine own_getF X12 hx hZ hown (host := "") (Or.inl (hw _ (List.mem_of_getElem? (i := 10) rfl))) Via.refl e12 Fld_16 (pc' := 22) rfl (hb hby d_prog_64_method_4_code_19) ?_
  intro T23 X23 e23
  refine own_astoreN X23 hx (Ls' := #[.val (.ref a1), .val (.ref aV), .val (.int p3), .val (.ref aS), .unset, .unset, .unset, .unset, .unset, .unset, .unset, .unset, .unset]) (pc' := 23) rfl (hb hby d_prog_64_method_4_code_22) rfl rfl ?_
  refine own_aloadN X23 hx (pc' := 24) rfl (hb hby d_prog_64_method_4_code_23) rfl rfl ?_
  refine own_getF X23 hx hZ hown (host := "") (Or.inl (hw _ (List.mem_of_getElem? (i := 12) rfl))) Via.refl e23 Fld_17 (pc' := 27) rfl (hb hby d_prog_64_method_4_code_24) ?_
  intro T24 X24 e24
  refine own_astore X24 hx (Ls' := #[.val (.ref a1), .val (.ref aV), .val (.int p3), .val (.ref aS), .val (.ref aC), .unset, .unset, .unset, .unset, .unset, .unset, .unset, .unset]) (pc' := 29) rfl (hb hby d_prog_64_method_4_code_27) rfl rfl ?_
  refine own_aloadN X24 hx (pc' := 30) rfl (hb hby d_prog_64_method_4_code_29) rfl rfl ?_
  refine own_getF X24 hx hZ hown (host := "") (Or.inl (hw _ (List.mem_of_getElem? (i := 19) rfl))) Via.refl e24 F13 (pc' := 33) rfl (hb hby d_prog_64_method_4_code_30) ?_
  intro T25 X25 e25
  refine own_astore X25 hx (Ls' := #[.val (.ref a1), .val (.ref aV), .val (.int p3), .val (.ref aS), .val (.ref aC), .val (.ref o3), .unset, .unset, .unset, .unset, .unset, .unset, .unset]) (pc' := 35) rfl (hb hby d_prog_64_method_4_code_33) rfl rfl ?_
  rcases hcnt with ⟨rfl, rfl⟩ | ⟨rfl, rfl⟩ | ⟨rfl, rfl⟩ | ⟨rfl, rfl⟩ | ⟨rfl, rfl⟩
  · refine own_iconst X25 hx (v := (0 : Int32)) (pc' := 36) rfl (hb hby d_prog_64_method_4_code_35) rfl ?_
    refine own_istore X25 hx (Ls' := #[.val (.ref a1), .val (.ref aV), .val (.int (0 : Int32)), .val (.ref aS), .val (.ref aC), .val (.ref o3), .val (.int (0 : Int32)), .unset, .unset, .unset, .unset, .unset, .unset]) (pc' := 38) rfl (hb hby d_prog_64_method_4_code_36) rfl ?_
    refine own_iload X25 hx (pc' := 40) rfl (hb hby d_prog_64_method_4_code_38) rfl ?_
    refine own_iloadN X25 hx (pc' := 41) rfl (hb hby d_prog_64_method_4_code_40) rfl ?_
    refine own_icmpT X25 hx (pc' := 105) (hb hby d_prog_64_method_4_code_41) (XT.ii_ge_t (by decide)) (by decide) (by decide) ?_
    refine own_ret X25 hx hlk hret (hb hby d_prog_64_method_4_code_105) (by decide) (by decide) ?_
    rw [e25]
    exact ⟨rfl, N12, K12, o3, _, _, _, Fld_16, Fld_17, F13, Arr_19, (hS.mono (by omega)), Arr_20, hC, Arr_22, (own_DA.congr (own_DA0 n) (by intro j; rcases j with _ | _ | _ | _ | j <;> first | (simp [own_updG, own_addG]; done) | (simp [own_updG, own_addG]; intro hh; omega))), (Nat.le_trans K0.1 (Nat.le_of_eq g3.symm))⟩
  · obtain ⟨x0, u0, ex0, dx0, bx0⟩ := hS 0 (by omega)
    obtain ⟨y0, t0, ey0, dy0, bY0⟩ := hC 0 (by omega)
    obtain rfl : t0 = 0 := by omega
    obtain ⟨ev0, bv0⟩ := hV 0 (by decide)
    have vI0 := own_vI bv0
    have lb0 := own_labsI bv0
    have ss0 := own_addI dx0 vI0 (k := u0 + (wv 0).toInt) rfl (by omega)
    have dz0 : DInt (own_zf 0) (0 : UInt64) := own_d0
    have gb0 : 0 ≤ own_zf 0 ∧ own_zf 0 ≤ 2 ^ 40 := by decide
    have mm0 := own_addI dz0 lb0.2.2 (k := own_zf 0 + (own_labs (wv 0)).toInt) rfl (by have := lb0.1; omega)
    refine own_iconst X25 hx (v := (0 : Int32)) (pc' := 36) rfl (hb hby d_prog_64_method_4_code_35) rfl ?_
    refine own_istore X25 hx (Ls' := #[.val (.ref a1), .val (.ref aV), .val (.int (1 : Int32)), .val (.ref aS), .val (.ref aC), .val (.ref o3), .val (.int (0 : Int32)), .unset, .unset, .unset, .unset, .unset, .unset]) (pc' := 38) rfl (hb hby d_prog_64_method_4_code_36) rfl ?_
    refine own_iload X25 hx (pc' := 40) rfl (hb hby d_prog_64_method_4_code_38) rfl ?_
    refine own_iloadN X25 hx (pc' := 41) rfl (hb hby d_prog_64_method_4_code_40) rfl ?_
    refine own_icmpF X25 hx (pc' := 44) rfl (hb hby d_prog_64_method_4_code_41) (XT.ii_ge_f (by decide)) ?_
    refine own_aloadN X25 hx (pc' := 45) rfl (hb hby d_prog_64_method_4_code_44) rfl rfl ?_
    refine own_iload X25 hx (pc' := 47) rfl (hb hby d_prog_64_method_4_code_45) rfl ?_
    refine own_ldD X25 hx hZ e25 Arr_19 (k := 0) (by decide) (by decide) (by omega) (v := (.double x0)) ex0 (pc' := 48) rfl (hb hby d_prog_64_method_4_code_47) ?_
    refine own_dstore X25 hx (Ls' := #[.val (.ref a1), .val (.ref aV), .val (.int (1 : Int32)), .val (.ref aS), .val (.ref aC), .val (.ref o3), .val (.int (0 : Int32)), .val (.double x0), .second, .unset, .unset, .unset, .unset]) (pc' := 50) rfl (hb hby d_prog_64_method_4_code_48) rfl ?_
    refine own_aloadN X25 hx (pc' := 51) rfl (hb hby d_prog_64_method_4_code_50) rfl rfl ?_
    refine own_iload X25 hx (pc' := 53) rfl (hb hby d_prog_64_method_4_code_51) rfl ?_
    refine own_ldD X25 hx hZ e25 Arr_21 (k := 0) (by decide) (by decide) (by decide) (v := (.double (FP.l2d (wv 0)))) ev0 (pc' := 54) rfl (hb hby d_prog_64_method_4_code_53) ?_
    refine own_dstore X25 hx (Ls' := #[.val (.ref a1), .val (.ref aV), .val (.int (1 : Int32)), .val (.ref aS), .val (.ref aC), .val (.ref o3), .val (.int (0 : Int32)), .val (.double x0), .second, .val (.double (FP.l2d (wv 0))), .second, .unset, .unset]) (pc' := 56) rfl (hb hby d_prog_64_method_4_code_54) rfl ?_
    refine own_dload X25 hx (pc' := 58) rfl (hb hby d_prog_64_method_4_code_56) rfl ?_
    refine own_dload X25 hx (pc' := 60) rfl (hb hby d_prog_64_method_4_code_58) rfl ?_
    refine own_dadd X25 hx (v := (FP.dadd x0 (FP.l2d (wv 0)))) (pc' := 61) rfl (hb hby d_prog_64_method_4_code_60) ss0.2 rfl ?_
    refine own_dstore X25 hx (Ls' := #[.val (.ref a1), .val (.ref aV), .val (.int (1 : Int32)), .val (.ref aS), .val (.ref aC), .val (.ref o3), .val (.int (0 : Int32)), .val (.double x0), .second, .val (.double (FP.l2d (wv 0))), .second, .val (.double (FP.dadd x0 (FP.l2d (wv 0)))), .second]) (pc' := 63) rfl (hb hby d_prog_64_method_4_code_61) rfl ?_
    refine own_aload X25 hx (pc' := 65) rfl (hb hby d_prog_64_method_4_code_63) rfl rfl ?_
    refine own_iload X25 hx (pc' := 67) rfl (hb hby d_prog_64_method_4_code_65) rfl ?_
    refine own_dup2 X25 hx (pc' := 68) rfl (hb hby d_prog_64_method_4_code_67) rfl rfl ?_
    refine own_ldD X25 hx hZ e25 Arr_20 (k := 0) (by decide) (by decide) (by omega) (v := (.double y0)) ey0 (pc' := 69) rfl (hb hby d_prog_64_method_4_code_68) ?_
    refine own_dload X25 hx (pc' := 71) rfl (hb hby d_prog_64_method_4_code_69) rfl ?_
    refine own_dload X25 hx (pc' := 73) rfl (hb hby d_prog_64_method_4_code_71) rfl ?_
    refine own_dload X25 hx (pc' := 75) rfl (hb hby d_prog_64_method_4_code_73) rfl ?_
    refine own_callS X25 hx hZ (y := (⟨"com/example/ferrule/ferrule/matrix/CompensatedSum", "errorWithoutBranch", "(DDD)D"⟩ : MethodName)) hown (hw _ (List.mem_of_getElem? (i := 49) rfl)) (hw _ (List.mem_of_getElem? (i := 50) rfl)) (hw _ (List.mem_of_getElem? (i := 28) rfl)) (hw _ (List.mem_of_getElem? (i := 51) rfl))  (by decide) (rm_errW l Z a0 hw [] u0 (wv 0).toInt x0 (FP.l2d (wv 0)) (FP.dadd x0 (FP.l2d (wv 0))) h12 n0 Siz_14 dx0 vI0 ss0.1 ⟨by omega, by omega⟩) (by decide) (W := 4) (by decide) (by decide) (by decide) e25 (by rw [hml]; rfl) (argsL := [(.double x0), (.double (FP.l2d (wv 0))), (.double (FP.dadd x0 (FP.l2d (wv 0))))]) (rest := [(.double y0), (.int (0 : Int32)), (.ref aC)]) rfl (lenOf pd__DDD_D rfl) rfl (Nat.le_of_eq rfl) (pc' := 78) rfl (hb hby d_prog_64_method_4_code_75) ?_
    rintro _ T26 L26 X26 ⟨r26, rfl, hr26, N26, e26⟩
    have M26 := Fr.app N12 N26
    show own_Goes p e below T26 (mkF m 78 #[.val (.ref a1), .val (.ref aV), .val (.int (1 : Int32)), .val (.ref aS), .val (.ref aC), .val (.ref o3), .val (.int (0 : Int32)), .val (.double x0), .second, .val (.double (FP.l2d (wv 0))), .second, .val (.double (FP.dadd x0 (FP.l2d (wv 0)))), .second] [(.double r26), (.double y0), (.int (0 : Int32)), (.ref aC)]) _
    refine own_dadd X26 hx (v := (FP.dadd y0 r26)) (pc' := 79) rfl (hb hby d_prog_64_method_4_code_78) (own_addI dy0 hr26 (k := 0) (by omega) (by decide)).2 rfl ?_
    refine own_stD X26 hx hZ e26 Arr_20 (k := 0) (by decide) (by decide) (by omega) (pc' := 80) rfl (hb hby d_prog_64_method_4_code_79) ?_
    intro T27 h27 X27 e27 W27 A27
    have Siz_28 := own_sizWr W27 Siz_14
    have Exa_29 := Exa.wr W27 Exa_15
    have Fld_30 := Fld.other W27 Fld_16 (Or.inl ne_a1_aC)
    have Fld_31 := Fld.other W27 Fld_17 (Or.inl ne_a1_aC)
    have Arr_32 := own_Arr.other W27 Arr_19 ne_aS_aC
    have Arr_34 := own_Arr.other W27 Arr_21 ne_aV_aC
    have Arr_35 := own_Arr.other W27 Arr_22 (Ne.symm ne3_aC)
    have Fld_36 := Fld.other W27 F13 (Or.inl ne_a1_aC)
    have N27 := Fr.snoc X27 M26 ge_aC
    have K27 := Keep.wr K12 W27 (Or.inl (by simp))
    refine own_aloadN X27 hx (pc' := 81) rfl (hb hby d_prog_64_method_4_code_80) rfl rfl ?_
    refine own_iload X27 hx (pc' := 83) rfl (hb hby d_prog_64_method_4_code_81) rfl ?_
    refine own_dload X27 hx (pc' := 85) rfl (hb hby d_prog_64_method_4_code_83) rfl ?_
    refine own_stD X27 hx hZ e27 Arr_32 (k := 0) (by decide) (by decide) (by omega) (pc' := 86) rfl (hb hby d_prog_64_method_4_code_85) ?_
    intro T37 h37 X37 e37 W37 A37
    have Siz_38 := own_sizWr W37 Siz_28
    have Exa_39 := Exa.wr W37 Exa_29
    have Fld_40 := Fld.other W37 Fld_30 (Or.inl ne_a1_aS)
    have Fld_41 := Fld.other W37 Fld_31 (Or.inl ne_a1_aS)
    have Arr_43 := own_Arr.other W37 Arr_34 ne_aV_aS
    have Arr_44 := own_Arr.other W37 Arr_35 (Ne.symm ne3_aS)
    have Fld_45 := Fld.other W37 Fld_36 (Or.inl ne_a1_aS)
    have Arr_46 := own_Arr.other W37 A27 (Ne.symm ne_aS_aC)
    have N37 := Fr.snoc X37 N27 ge_aS
    have K37 := Keep.wr K27 W37 (Or.inl (by simp))
    refine own_aload X37 hx (pc' := 88) rfl (hb hby d_prog_64_method_4_code_86) rfl rfl ?_
    refine own_iload X37 hx (pc' := 90) rfl (hb hby d_prog_64_method_4_code_88) rfl ?_
    refine own_dup2 X37 hx (pc' := 91) rfl (hb hby d_prog_64_method_4_code_90) rfl rfl ?_
    refine own_ldD X37 hx hZ e37 Arr_44 (k := 0) (by decide) (by decide) (by omega) (v := (.double (0 : UInt64))) rfl (pc' := 92) rfl (hb hby d_prog_64_method_4_code_91) ?_
    refine own_dload X37 hx (pc' := 94) rfl (hb hby d_prog_64_method_4_code_92) rfl ?_
    refine own_absD X37 hx hZ hown (hw _ (List.mem_of_getElem? (i := 52) rfl)) (hw _ (List.mem_of_getElem? (i := 31) rfl)) (hw _ (List.mem_of_getElem? (i := 32) rfl)) (hw _ (List.mem_of_getElem? (i := 33) rfl)) e37 (v := (FP.l2d (own_labs (wv 0)))) (own_nnI vI0) lb0.2.1 (by rw [hml]; rfl) (by decide) (W := 4) (Nat.le_of_eq rfl) (by decide) (by decide) (by decide) (pc' := 97) rfl (hb hby d_prog_64_method_4_code_94) ?_
    intro T47 X47 e47
    refine own_dadd X47 hx (v := (FP.dadd (0 : UInt64) (FP.l2d (own_labs (wv 0))))) (pc' := 98) rfl (hb hby d_prog_64_method_4_code_97) mm0.2 rfl ?_
    refine own_stD X47 hx hZ e47 Arr_44 (k := 0) (by decide) (by decide) (by omega) (pc' := 99) rfl (hb hby d_prog_64_method_4_code_98) ?_
    intro T48 h48 X48 e48 W48 A48
    have Siz_49 := own_sizWr W48 Siz_38
    have Exa_50 := Exa.wr W48 Exa_39
    have Fld_51 := Fld.other W48 Fld_40 (Or.inl ne3_a1)
    have Fld_52 := Fld.other W48 Fld_41 (Or.inl ne3_a1)
    have Arr_53 := own_Arr.other W48 Arr_43 ne3_aV
    have Fld_55 := Fld.other W48 Fld_45 (Or.inl ne3_a1)
    have Arr_56 := own_Arr.other W48 Arr_46 ne3_aC
    have Arr_57 := own_Arr.other W48 A37 ne3_aS
    have N48 := Fr.snoc X48 N37 ge3
    have K48 := Keep.wr K37 W48 (Or.inr (Nat.le_trans K0.1 (Nat.le_of_eq g3.symm)))
    refine own_iinc X48 hx (v := (1 : Int32)) (Ls' := #[.val (.ref a1), .val (.ref aV), .val (.int (1 : Int32)), .val (.ref aS), .val (.ref aC), .val (.ref o3), .val (.int (1 : Int32)), .val (.double x0), .second, .val (.double (FP.l2d (wv 0))), .second, .val (.double (FP.dadd x0 (FP.l2d (wv 0)))), .second]) (pc' := 102) rfl (hb hby d_prog_64_method_4_code_99) rfl (by decide) rfl ?_
    refine own_goto X48 hx (pc' := 38) (hb hby d_prog_64_method_4_code_102) (by decide) (by decide) ?_
    refine own_iload X48 hx (pc' := 40) rfl (hb hby d_prog_64_method_4_code_38) rfl ?_
    refine own_iloadN X48 hx (pc' := 41) rfl (hb hby d_prog_64_method_4_code_40) rfl ?_
    refine own_icmpT X48 hx (pc' := 105) (hb hby d_prog_64_method_4_code_41) (XT.ii_ge_t (by decide)) (by decide) (by decide) ?_
    refine own_ret X48 hx hlk hret (hb hby d_prog_64_method_4_code_105) (by decide) (by decide) ?_
    rw [e48]
    exact ⟨rfl, N48, K48, o3, _, _, _, Fld_51, Fld_52, Fld_55, Arr_57, (own_DB.upd (hS.mono (by omega)) 0 ss0.1 (by omega)), Arr_56, (own_DB.upd hC 0 (own_addI dy0 hr26 (k := 0) (by omega) (by decide)).1 (by decide)), A48, (own_DA.congr (own_DA.upd (own_DA0 n) 0 mm0.1) (by intro j; rcases j with _ | _ | _ | _ | j <;> first | (simp [own_updG, own_addG]; done) | (simp [own_updG, own_addG]; intro hh; omega))), (Nat.le_trans K0.1 (Nat.le_of_eq g3.symm))⟩
  · obtain ⟨x0, u0, ex0, dx0, bx0⟩ := hS 0 (by omega)
    obtain ⟨y0, t0, ey0, dy0, bY0⟩ := hC 0 (by omega)
    obtain rfl : t0 = 0 := by omega
    obtain ⟨ev0, bv0⟩ := hV 0 (by decide)
    have vI0 := own_vI bv0
    have lb0 := own_labsI bv0
    have ss0 := own_addI dx0 vI0 (k := u0 + (wv 0).toInt) rfl (by omega)
    have dz0 : DInt (own_zf 0) (0 : UInt64) := own_d0
    have gb0 : 0 ≤ own_zf 0 ∧ own_zf 0 ≤ 2 ^ 40 := by decide
    have mm0 := own_addI dz0 lb0.2.2 (k := own_zf 0 + (own_labs (wv 0)).toInt) rfl (by have := lb0.1; omega)
    obtain ⟨x1, u1, ex1, dx1, bx1⟩ := hS 1 (by omega)
    obtain ⟨y1, t1, ey1, dy1, bY1⟩ := hC 1 (by omega)
    obtain rfl : t1 = 0 := by omega
    obtain ⟨ev1, bv1⟩ := hV 1 (by decide)
    have vI1 := own_vI bv1
    have lb1 := own_labsI bv1
    have ss1 := own_addI dx1 vI1 (k := u1 + (wv 1).toInt) rfl (by omega)
    have dz1 : DInt (own_zf 1) (0 : UInt64) := own_d0
    have gb1 : 0 ≤ own_zf 1 ∧ own_zf 1 ≤ 2 ^ 40 := by decide
    have mm1 := own_addI dz1 lb1.2.2 (k := own_zf 1 + (own_labs (wv 1)).toInt) rfl (by have := lb1.1; omega)
    refine own_iconst X25 hx (v := (0 : Int32)) (pc' := 36) rfl (hb hby d_prog_64_method_4_code_35) rfl ?_
    refine own_istore X25 hx (Ls' := #[.val (.ref a1), .val (.ref aV), .val (.int (2 : Int32)), .val (.ref aS), .val (.ref aC), .val (.ref o3), .val (.int (0 : Int32)), .unset, .unset, .unset, .unset, .unset, .unset]) (pc' := 38) rfl (hb hby d_prog_64_method_4_code_36) rfl ?_
    refine own_iload X25 hx (pc' := 40) rfl (hb hby d_prog_64_method_4_code_38) rfl ?_
    refine own_iloadN X25 hx (pc' := 41) rfl (hb hby d_prog_64_method_4_code_40) rfl ?_
    refine own_icmpF X25 hx (pc' := 44) rfl (hb hby d_prog_64_method_4_code_41) (XT.ii_ge_f (by decide)) ?_
    refine own_aloadN X25 hx (pc' := 45) rfl (hb hby d_prog_64_method_4_code_44) rfl rfl ?_
    refine own_iload X25 hx (pc' := 47) rfl (hb hby d_prog_64_method_4_code_45) rfl ?_
    refine own_ldD X25 hx hZ e25 Arr_19 (k := 0) (by decide) (by decide) (by omega) (v := (.double x0)) ex0 (pc' := 48) rfl (hb hby d_prog_64_method_4_code_47) ?_
    refine own_dstore X25 hx (Ls' := #[.val (.ref a1), .val (.ref aV), .val (.int (2 : Int32)), .val (.ref aS), .val (.ref aC), .val (.ref o3), .val (.int (0 : Int32)), .val (.double x0), .second, .unset, .unset, .unset, .unset]) (pc' := 50) rfl (hb hby d_prog_64_method_4_code_48) rfl ?_
    refine own_aloadN X25 hx (pc' := 51) rfl (hb hby d_prog_64_method_4_code_50) rfl rfl ?_
    refine own_iload X25 hx (pc' := 53) rfl (hb hby d_prog_64_method_4_code_51) rfl ?_
    refine own_ldD X25 hx hZ e25 Arr_21 (k := 0) (by decide) (by decide) (by decide) (v := (.double (FP.l2d (wv 0)))) ev0 (pc' := 54) rfl (hb hby d_prog_64_method_4_code_53) ?_
    refine own_dstore X25 hx (Ls' := #[.val (.ref a1), .val (.ref aV), .val (.int (2 : Int32)), .val (.ref aS), .val (.ref aC), .val (.ref o3), .val (.int (0 : Int32)), .val (.double x0), .second, .val (.double (FP.l2d (wv 0))), .second, .unset, .unset]) (pc' := 56) rfl (hb hby d_prog_64_method_4_code_54) rfl ?_
    refine own_dload X25 hx (pc' := 58) rfl (hb hby d_prog_64_method_4_code_56) rfl ?_
    refine own_dload X25 hx (pc' := 60) rfl (hb hby d_prog_64_method_4_code_58) rfl ?_
    refine own_dadd X25 hx (v := (FP.dadd x0 (FP.l2d (wv 0)))) (pc' := 61) rfl (hb hby d_prog_64_method_4_code_60) ss0.2 rfl ?_
    refine own_dstore X25 hx (Ls' := #[.val (.ref a1), .val (.ref aV), .val (.int (2 : Int32)), .val (.ref aS), .val (.ref aC), .val (.ref o3), .val (.int (0 : Int32)), .val (.double x0), .second, .val (.double (FP.l2d (wv 0))), .second, .val (.double (FP.dadd x0 (FP.l2d (wv 0)))), .second]) (pc' := 63) rfl (hb hby d_prog_64_method_4_code_61) rfl ?_
    refine own_aload X25 hx (pc' := 65) rfl (hb hby d_prog_64_method_4_code_63) rfl rfl ?_
    refine own_iload X25 hx (pc' := 67) rfl (hb hby d_prog_64_method_4_code_65) rfl ?_
    refine own_dup2 X25 hx (pc' := 68) rfl (hb hby d_prog_64_method_4_code_67) rfl rfl ?_
    refine own_ldD X25 hx hZ e25 Arr_20 (k := 0) (by decide) (by decide) (by omega) (v := (.double y0)) ey0 (pc' := 69) rfl (hb hby d_prog_64_method_4_code_68) ?_
    refine own_dload X25 hx (pc' := 71) rfl (hb hby d_prog_64_method_4_code_69) rfl ?_
    refine own_dload X25 hx (pc' := 73) rfl (hb hby d_prog_64_method_4_code_71) rfl ?_
    refine own_dload X25 hx (pc' := 75) rfl (hb hby d_prog_64_method_4_code_73) rfl ?_
    refine own_callS X25 hx hZ (y := (⟨"com/example/ferrule/ferrule/matrix/CompensatedSum", "errorWithoutBranch", "(DDD)D"⟩ : MethodName)) hown (hw _ (List.mem_of_getElem? (i := 49) rfl)) (hw _ (List.mem_of_getElem? (i := 50) rfl)) (hw _ (List.mem_of_getElem? (i := 28) rfl)) (hw _ (List.mem_of_getElem? (i := 51) rfl))  (by decide) (rm_errW l Z a0 hw [] u0 (wv 0).toInt x0 (FP.l2d (wv 0)) (FP.dadd x0 (FP.l2d (wv 0))) h12 n0 Siz_14 dx0 vI0 ss0.1 ⟨by omega, by omega⟩) (by decide) (W := 4) (by decide) (by decide) (by decide) e25 (by rw [hml]; rfl) (argsL := [(.double x0), (.double (FP.l2d (wv 0))), (.double (FP.dadd x0 (FP.l2d (wv 0))))]) (rest := [(.double y0), (.int (0 : Int32)), (.ref aC)]) rfl (lenOf pd__DDD_D rfl) rfl (Nat.le_of_eq rfl) (pc' := 78) rfl (hb hby d_prog_64_method_4_code_75) ?_
    rintro _ T58 L58 X58 ⟨r58, rfl, hr58, N58, e58⟩
    have M58 := Fr.app N12 N58
    show own_Goes p e below T58 (mkF m 78 #[.val (.ref a1), .val (.ref aV), .val (.int (2 : Int32)), .val (.ref aS), .val (.ref aC), .val (.ref o3), .val (.int (0 : Int32)), .val (.double x0), .second, .val (.double (FP.l2d (wv 0))), .second, .val (.double (FP.dadd x0 (FP.l2d (wv 0)))), .second] [(.double r58), (.double y0), (.int (0 : Int32)), (.ref aC)]) _
    refine own_dadd X58 hx (v := (FP.dadd y0 r58)) (pc' := 79) rfl (hb hby d_prog_64_method_4_code_78) (own_addI dy0 hr58 (k := 0) (by omega) (by decide)).2 rfl ?_
    refine own_stD X58 hx hZ e58 Arr_20 (k := 0) (by decide) (by decide) (by omega) (pc' := 80) rfl (hb hby d_prog_64_method_4_code_79) ?_
    intro T59 h59 X59 e59 W59 A59
    have Siz_60 := own_sizWr W59 Siz_14
    have Exa_61 := Exa.wr W59 Exa_15
    have Fld_62 := Fld.other W59 Fld_16 (Or.inl ne_a1_aC)
    have Fld_63 := Fld.other W59 Fld_17 (Or.inl ne_a1_aC)
    have Arr_64 := own_Arr.other W59 Arr_19 ne_aS_aC
    have Arr_66 := own_Arr.other W59 Arr_21 ne_aV_aC
    have Arr_67 := own_Arr.other W59 Arr_22 (Ne.symm ne3_aC)
    have Fld_68 := Fld.other W59 F13 (Or.inl ne_a1_aC)
    have N59 := Fr.snoc X59 M58 ge_aC
    have K59 := Keep.wr K12 W59 (Or.inl (by simp))
    refine own_aloadN X59 hx (pc' := 81) rfl (hb hby d_prog_64_method_4_code_80) rfl rfl ?_
    refine own_iload X59 hx (pc' := 83) rfl (hb hby d_prog_64_method_4_code_81) rfl ?_
    refine own_dload X59 hx (pc' := 85) rfl (hb hby d_prog_64_method_4_code_83) rfl ?_
    refine own_stD X59 hx hZ e59 Arr_64 (k := 0) (by decide) (by decide) (by omega) (pc' := 86) rfl (hb hby d_prog_64_method_4_code_85) ?_
    intro T69 h69 X69 e69 W69 A69
    have Siz_70 := own_sizWr W69 Siz_60
    have Exa_71 := Exa.wr W69 Exa_61
    have Fld_72 := Fld.other W69 Fld_62 (Or.inl ne_a1_aS)
    have Fld_73 := Fld.other W69 Fld_63 (Or.inl ne_a1_aS)
    have Arr_75 := own_Arr.other W69 Arr_66 ne_aV_aS
    have Arr_76 := own_Arr.other W69 Arr_67 (Ne.symm ne3_aS)
    have Fld_77 := Fld.other W69 Fld_68 (Or.inl ne_a1_aS)
    have Arr_78 := own_Arr.other W69 A59 (Ne.symm ne_aS_aC)
    have N69 := Fr.snoc X69 N59 ge_aS
    have K69 := Keep.wr K59 W69 (Or.inl (by simp))
    refine own_aload X69 hx (pc' := 88) rfl (hb hby d_prog_64_method_4_code_86) rfl rfl ?_
    refine own_iload X69 hx (pc' := 90) rfl (hb hby d_prog_64_method_4_code_88) rfl ?_
    refine own_dup2 X69 hx (pc' := 91) rfl (hb hby d_prog_64_method_4_code_90) rfl rfl ?_
    refine own_ldD X69 hx hZ e69 Arr_76 (k := 0) (by decide) (by decide) (by omega) (v := (.double (0 : UInt64))) rfl (pc' := 92) rfl (hb hby d_prog_64_method_4_code_91) ?_
    refine own_dload X69 hx (pc' := 94) rfl (hb hby d_prog_64_method_4_code_92) rfl ?_
    refine own_absD X69 hx hZ hown (hw _ (List.mem_of_getElem? (i := 52) rfl)) (hw _ (List.mem_of_getElem? (i := 31) rfl)) (hw _ (List.mem_of_getElem? (i := 32) rfl)) (hw _ (List.mem_of_getElem? (i := 33) rfl)) e69 (v := (FP.l2d (own_labs (wv 0)))) (own_nnI vI0) lb0.2.1 (by rw [hml]; rfl) (by decide) (W := 4) (Nat.le_of_eq rfl) (by decide) (by decide) (by decide) (pc' := 97) rfl (hb hby d_prog_64_method_4_code_94) ?_
    intro T79 X79 e79
    refine own_dadd X79 hx (v := (FP.dadd (0 : UInt64) (FP.l2d (own_labs (wv 0))))) (pc' := 98) rfl (hb hby d_prog_64_method_4_code_97) mm0.2 rfl ?_
    refine own_stD X79 hx hZ e79 Arr_76 (k := 0) (by decide) (by decide) (by omega) (pc' := 99) rfl (hb hby d_prog_64_method_4_code_98) ?_
    intro T80 h80 X80 e80 W80 A80
    have Siz_81 := own_sizWr W80 Siz_70
    have Exa_82 := Exa.wr W80 Exa_71
    have Fld_83 := Fld.other W80 Fld_72 (Or.inl ne3_a1)
    have Fld_84 := Fld.other W80 Fld_73 (Or.inl ne3_a1)
    have Arr_85 := own_Arr.other W80 Arr_75 ne3_aV
    have Fld_87 := Fld.other W80 Fld_77 (Or.inl ne3_a1)
    have Arr_88 := own_Arr.other W80 Arr_78 ne3_aC
    have Arr_89 := own_Arr.other W80 A69 ne3_aS
    have N80 := Fr.snoc X80 N69 ge3
    have K80 := Keep.wr K69 W80 (Or.inr (Nat.le_trans K0.1 (Nat.le_of_eq g3.symm)))
    refine own_iinc X80 hx (v := (1 : Int32)) (Ls' := #[.val (.ref a1), .val (.ref aV), .val (.int (2 : Int32)), .val (.ref aS), .val (.ref aC), .val (.ref o3), .val (.int (1 : Int32)), .val (.double x0), .second, .val (.double (FP.l2d (wv 0))), .second, .val (.double (FP.dadd x0 (FP.l2d (wv 0)))), .second]) (pc' := 102) rfl (hb hby d_prog_64_method_4_code_99) rfl (by decide) rfl ?_
    refine own_goto X80 hx (pc' := 38) (hb hby d_prog_64_method_4_code_102) (by decide) (by decide) ?_
    refine own_iload X80 hx (pc' := 40) rfl (hb hby d_prog_64_method_4_code_38) rfl ?_
    refine own_iloadN X80 hx (pc' := 41) rfl (hb hby d_prog_64_method_4_code_40) rfl ?_
    refine own_icmpF X80 hx (pc' := 44) rfl (hb hby d_prog_64_method_4_code_41) (XT.ii_ge_f (by decide)) ?_
    refine own_aloadN X80 hx (pc' := 45) rfl (hb hby d_prog_64_method_4_code_44) rfl rfl ?_
    refine own_iload X80 hx (pc' := 47) rfl (hb hby d_prog_64_method_4_code_45) rfl ?_
    refine own_ldD X80 hx hZ e80 Arr_89 (k := 1) (by decide) (by decide) (by omega) (v := (.double x1)) ex1 (pc' := 48) rfl (hb hby d_prog_64_method_4_code_47) ?_
    refine own_dstore X80 hx (Ls' := #[.val (.ref a1), .val (.ref aV), .val (.int (2 : Int32)), .val (.ref aS), .val (.ref aC), .val (.ref o3), .val (.int (1 : Int32)), .val (.double x1), .second, .val (.double (FP.l2d (wv 0))), .second, .val (.double (FP.dadd x0 (FP.l2d (wv 0)))), .second]) (pc' := 50) rfl (hb hby d_prog_64_method_4_code_48) rfl ?_
    refine own_aloadN X80 hx (pc' := 51) rfl (hb hby d_prog_64_method_4_code_50) rfl rfl ?_
    refine own_iload X80 hx (pc' := 53) rfl (hb hby d_prog_64_method_4_code_51) rfl ?_
    refine own_ldD X80 hx hZ e80 Arr_85 (k := 1) (by decide) (by decide) (by decide) (v := (.double (FP.l2d (wv 1)))) ev1 (pc' := 54) rfl (hb hby d_prog_64_method_4_code_53) ?_
    refine own_dstore X80 hx (Ls' := #[.val (.ref a1), .val (.ref aV), .val (.int (2 : Int32)), .val (.ref aS), .val (.ref aC), .val (.ref o3), .val (.int (1 : Int32)), .val (.double x1), .second, .val (.double (FP.l2d (wv 1))), .second, .val (.double (FP.dadd x0 (FP.l2d (wv 0)))), .second]) (pc' := 56) rfl (hb hby d_prog_64_method_4_code_54) rfl ?_
    refine own_dload X80 hx (pc' := 58) rfl (hb hby d_prog_64_method_4_code_56) rfl ?_
    refine own_dload X80 hx (pc' := 60) rfl (hb hby d_prog_64_method_4_code_58) rfl ?_
    refine own_dadd X80 hx (v := (FP.dadd x1 (FP.l2d (wv 1)))) (pc' := 61) rfl (hb hby d_prog_64_method_4_code_60) ss1.2 rfl ?_
    refine own_dstore X80 hx (Ls' := #[.val (.ref a1), .val (.ref aV), .val (.int (2 : Int32)), .val (.ref aS), .val (.ref aC), .val (.ref o3), .val (.int (1 : Int32)), .val (.double x1), .second, .val (.double (FP.l2d (wv 1))), .second, .val (.double (FP.dadd x1 (FP.l2d (wv 1)))), .second]) (pc' := 63) rfl (hb hby d_prog_64_method_4_code_61) rfl ?_
    refine own_aload X80 hx (pc' := 65) rfl (hb hby d_prog_64_method_4_code_63) rfl rfl ?_
    refine own_iload X80 hx (pc' := 67) rfl (hb hby d_prog_64_method_4_code_65) rfl ?_
    refine own_dup2 X80 hx (pc' := 68) rfl (hb hby d_prog_64_method_4_code_67) rfl rfl ?_
    refine own_ldD X80 hx hZ e80 Arr_88 (k := 1) (by decide) (by decide) (by omega) (v := (.double y1)) ey1 (pc' := 69) rfl (hb hby d_prog_64_method_4_code_68) ?_
    refine own_dload X80 hx (pc' := 71) rfl (hb hby d_prog_64_method_4_code_69) rfl ?_
    refine own_dload X80 hx (pc' := 73) rfl (hb hby d_prog_64_method_4_code_71) rfl ?_
    refine own_dload X80 hx (pc' := 75) rfl (hb hby d_prog_64_method_4_code_73) rfl ?_
    refine own_callS X80 hx hZ (y := (⟨"com/example/ferrule/ferrule/matrix/CompensatedSum", "errorWithoutBranch", "(DDD)D"⟩ : MethodName)) hown (hw _ (List.mem_of_getElem? (i := 49) rfl)) (hw _ (List.mem_of_getElem? (i := 50) rfl)) (hw _ (List.mem_of_getElem? (i := 28) rfl)) (hw _ (List.mem_of_getElem? (i := 51) rfl))  (by decide) (rm_errW l Z a0 hw [] u1 (wv 1).toInt x1 (FP.l2d (wv 1)) (FP.dadd x1 (FP.l2d (wv 1))) h80 n0 Siz_81 dx1 vI1 ss1.1 ⟨by omega, by omega⟩) (by decide) (W := 4) (by decide) (by decide) (by decide) e80 (by rw [hml]; rfl) (argsL := [(.double x1), (.double (FP.l2d (wv 1))), (.double (FP.dadd x1 (FP.l2d (wv 1))))]) (rest := [(.double y1), (.int (1 : Int32)), (.ref aC)]) rfl (lenOf pd__DDD_D rfl) rfl (Nat.le_of_eq rfl) (pc' := 78) rfl (hb hby d_prog_64_method_4_code_75) ?_
    rintro _ T90 L90 X90 ⟨r90, rfl, hr90, N90, e90⟩
    have M90 := Fr.app N80 N90
    show own_Goes p e below T90 (mkF m 78 #[.val (.ref a1), .val (.ref aV), .val (.int (2 : Int32)), .val (.ref aS), .val (.ref aC), .val (.ref o3), .val (.int (1 : Int32)), .val (.double x1), .second, .val (.double (FP.l2d (wv 1))), .second, .val (.double (FP.dadd x1 (FP.l2d (wv 1)))), .second] [(.double r90), (.double y1), (.int (1 : Int32)), (.ref aC)]) _
    refine own_dadd X90 hx (v := (FP.dadd y1 r90)) (pc' := 79) rfl (hb hby d_prog_64_method_4_code_78) (own_addI dy1 hr90 (k := 0) (by omega) (by decide)).2 rfl ?_
    refine own_stD X90 hx hZ e90 Arr_88 (k := 1) (by decide) (by decide) (by omega) (pc' := 80) rfl (hb hby d_prog_64_method_4_code_79) ?_
    intro T91 h91 X91 e91 W91 A91
    have Siz_92 := own_sizWr W91 Siz_81
    have Exa_93 := Exa.wr W91 Exa_82
    have Fld_94 := Fld.other W91 Fld_83 (Or.inl ne_a1_aC)
    have Fld_95 := Fld.other W91 Fld_84 (Or.inl ne_a1_aC)
    have Arr_96 := own_Arr.other W91 Arr_85 ne_aV_aC
    have Fld_97 := Fld.other W91 Fld_87 (Or.inl ne_a1_aC)
    have Arr_99 := own_Arr.other W91 Arr_89 ne_aS_aC
    have Arr_100 := own_Arr.other W91 A80 (Ne.symm ne3_aC)
    have N91 := Fr.snoc X91 M90 ge_aC
    have K91 := Keep.wr K80 W91 (Or.inl (by simp))
    refine own_aloadN X91 hx (pc' := 81) rfl (hb hby d_prog_64_method_4_code_80) rfl rfl ?_
    refine own_iload X91 hx (pc' := 83) rfl (hb hby d_prog_64_method_4_code_81) rfl ?_
    refine own_dload X91 hx (pc' := 85) rfl (hb hby d_prog_64_method_4_code_83) rfl ?_
    refine own_stD X91 hx hZ e91 Arr_99 (k := 1) (by decide) (by decide) (by omega) (pc' := 86) rfl (hb hby d_prog_64_method_4_code_85) ?_
    intro T101 h101 X101 e101 W101 A101
    have Siz_102 := own_sizWr W101 Siz_92
    have Exa_103 := Exa.wr W101 Exa_93
    have Fld_104 := Fld.other W101 Fld_94 (Or.inl ne_a1_aS)
    have Fld_105 := Fld.other W101 Fld_95 (Or.inl ne_a1_aS)
    have Arr_106 := own_Arr.other W101 Arr_96 ne_aV_aS
    have Fld_107 := Fld.other W101 Fld_97 (Or.inl ne_a1_aS)
    have Arr_109 := own_Arr.other W101 Arr_100 (Ne.symm ne3_aS)
    have Arr_110 := own_Arr.other W101 A91 (Ne.symm ne_aS_aC)
    have N101 := Fr.snoc X101 N91 ge_aS
    have K101 := Keep.wr K91 W101 (Or.inl (by simp))
    refine own_aload X101 hx (pc' := 88) rfl (hb hby d_prog_64_method_4_code_86) rfl rfl ?_
    refine own_iload X101 hx (pc' := 90) rfl (hb hby d_prog_64_method_4_code_88) rfl ?_
    refine own_dup2 X101 hx (pc' := 91) rfl (hb hby d_prog_64_method_4_code_90) rfl rfl ?_
    refine own_ldD X101 hx hZ e101 Arr_109 (k := 1) (by decide) (by decide) (by omega) (v := (.double (0 : UInt64))) rfl (pc' := 92) rfl (hb hby d_prog_64_method_4_code_91) ?_
    refine own_dload X101 hx (pc' := 94) rfl (hb hby d_prog_64_method_4_code_92) rfl ?_
    refine own_absD X101 hx hZ hown (hw _ (List.mem_of_getElem? (i := 52) rfl)) (hw _ (List.mem_of_getElem? (i := 31) rfl)) (hw _ (List.mem_of_getElem? (i := 32) rfl)) (hw _ (List.mem_of_getElem? (i := 33) rfl)) e101 (v := (FP.l2d (own_labs (wv 1)))) (own_nnI vI1) lb1.2.1 (by rw [hml]; rfl) (by decide) (W := 4) (Nat.le_of_eq rfl) (by decide) (by decide) (by decide) (pc' := 97) rfl (hb hby d_prog_64_method_4_code_94) ?_
    intro T111 X111 e111
    refine own_dadd X111 hx (v := (FP.dadd (0 : UInt64) (FP.l2d (own_labs (wv 1))))) (pc' := 98) rfl (hb hby d_prog_64_method_4_code_97) mm1.2 rfl ?_
    refine own_stD X111 hx hZ e111 Arr_109 (k := 1) (by decide) (by decide) (by omega) (pc' := 99) rfl (hb hby d_prog_64_method_4_code_98) ?_
    intro T112 h112 X112 e112 W112 A112
    have Siz_113 := own_sizWr W112 Siz_102
    have Exa_114 := Exa.wr W112 Exa_103
    have Fld_115 := Fld.other W112 Fld_104 (Or.inl ne3_a1)
    have Fld_116 := Fld.other W112 Fld_105 (Or.inl ne3_a1)
    have Arr_117 := own_Arr.other W112 Arr_106 ne3_aV
    have Fld_118 := Fld.other W112 Fld_107 (Or.inl ne3_a1)
    have Arr_120 := own_Arr.other W112 Arr_110 ne3_aC
    have Arr_121 := own_Arr.other W112 A101 ne3_aS
    have N112 := Fr.snoc X112 N101 ge3
    have K112 := Keep.wr K101 W112 (Or.inr (Nat.le_trans K0.1 (Nat.le_of_eq g3.symm)))
    refine own_iinc X112 hx (v := (2 : Int32)) (Ls' := #[.val (.ref a1), .val (.ref aV), .val (.int (2 : Int32)), .val (.ref aS), .val (.ref aC), .val (.ref o3), .val (.int (2 : Int32)), .val (.double x1), .second, .val (.double (FP.l2d (wv 1))), .second, .val (.double (FP.dadd x1 (FP.l2d (wv 1)))), .second]) (pc' := 102) rfl (hb hby d_prog_64_method_4_code_99) rfl (by decide) rfl ?_
    refine own_goto X112 hx (pc' := 38) (hb hby d_prog_64_method_4_code_102) (by decide) (by decide) ?_
    refine own_iload X112 hx (pc' := 40) rfl (hb hby d_prog_64_method_4_code_38) rfl ?_
    refine own_iloadN X112 hx (pc' := 41) rfl (hb hby d_prog_64_method_4_code_40) rfl ?_
    refine own_icmpT X112 hx (pc' := 105) (hb hby d_prog_64_method_4_code_41) (XT.ii_ge_t (by decide)) (by decide) (by decide) ?_
    refine own_ret X112 hx hlk hret (hb hby d_prog_64_method_4_code_105) (by decide) (by decide) ?_
    rw [e112]
    exact ⟨rfl, N112, K112, o3, _, _, _, Fld_115, Fld_116, Fld_118, Arr_121, (own_DB.upd (own_DB.upd (hS.mono (by omega)) 0 ss0.1 (by omega)) 1 ss1.1 (by omega)), Arr_120, (own_DB.upd (own_DB.upd hC 0 (own_addI dy0 hr58 (k := 0) (by omega) (by decide)).1 (by decide)) 1 (own_addI dy1 hr90 (k := 0) (by omega) (by decide)).1 (by decide)), A112, (own_DA.congr (own_DA.upd (own_DA.upd (own_DA0 n) 0 mm0.1) 1 mm1.1) (by intro j; rcases j with _ | _ | _ | _ | j <;> first | (simp [own_updG, own_addG]; done) | (simp [own_updG, own_addG]; intro hh; omega))), (Nat.le_trans K0.1 (Nat.le_of_eq g3.symm))⟩
  · obtain ⟨x0, u0, ex0, dx0, bx0⟩ := hS 0 (by omega)
    obtain ⟨y0, t0, ey0, dy0, bY0⟩ := hC 0 (by omega)
    obtain rfl : t0 = 0 := by omega
    obtain ⟨ev0, bv0⟩ := hV 0 (by decide)
    have vI0 := own_vI bv0
    have lb0 := own_labsI bv0
    have ss0 := own_addI dx0 vI0 (k := u0 + (wv 0).toInt) rfl (by omega)
    have dz0 : DInt (own_zf 0) (0 : UInt64) := own_d0
    have gb0 : 0 ≤ own_zf 0 ∧ own_zf 0 ≤ 2 ^ 40 := by decide
    have mm0 := own_addI dz0 lb0.2.2 (k := own_zf 0 + (own_labs (wv 0)).toInt) rfl (by have := lb0.1; omega)
    obtain ⟨x1, u1, ex1, dx1, bx1⟩ := hS 1 (by omega)
    obtain ⟨y1, t1, ey1, dy1, bY1⟩ := hC 1 (by omega)
    obtain rfl : t1 = 0 := by omega
    obtain ⟨ev1, bv1⟩ := hV 1 (by decide)
    have vI1 := own_vI bv1
    have lb1 := own_labsI bv1
    have ss1 := own_addI dx1 vI1 (k := u1 + (wv 1).toInt) rfl (by omega)
    have dz1 : DInt (own_zf 1) (0 : UInt64) := own_d0
    have gb1 : 0 ≤ own_zf 1 ∧ own_zf 1 ≤ 2 ^ 40 := by decide
    have mm1 := own_addI dz1 lb1.2.2 (k := own_zf 1 + (own_labs (wv 1)).toInt) rfl (by have := lb1.1; omega)
    obtain ⟨x2, u2, ex2, dx2, bx2⟩ := hS 2 (by omega)
    obtain ⟨y2, t2, ey2, dy2, bY2⟩ := hC 2 (by omega)
    obtain rfl : t2 = 0 := by omega
    obtain ⟨ev2, bv2⟩ := hV 2 (by decide)
    have vI2 := own_vI bv2
    have lb2 := own_labsI bv2
    have ss2 := own_addI dx2 vI2 (k := u2 + (wv 2).toInt) rfl (by omega)
    have dz2 : DInt (own_zf 2) (0 : UInt64) := own_d0
    have gb2 : 0 ≤ own_zf 2 ∧ own_zf 2 ≤ 2 ^ 40 := by decide
    have mm2 := own_addI dz2 lb2.2.2 (k := own_zf 2 + (own_labs (wv 2)).toInt) rfl (by have := lb2.1; omega)
    refine own_iconst X25 hx (v := (0 : Int32)) (pc' := 36) rfl (hb hby d_prog_64_method_4_code_35) rfl ?_
    refine own_istore X25 hx (Ls' := #[.val (.ref a1), .val (.ref aV), .val (.int (3 : Int32)), .val (.ref aS), .val (.ref aC), .val (.ref o3), .val (.int (0 : Int32)), .unset, .unset, .unset, .unset, .unset, .unset]) (pc' := 38) rfl (hb hby d_prog_64_method_4_code_36) rfl ?_
    refine own_iload X25 hx (pc' := 40) rfl (hb hby d_prog_64_method_4_code_38) rfl ?_
    refine own_iloadN X25 hx (pc' := 41) rfl (hb hby d_prog_64_method_4_code_40) rfl ?_
    refine own_icmpF X25 hx (pc' := 44) rfl (hb hby d_prog_64_method_4_code_41) (XT.ii_ge_f (by decide)) ?_
    refine own_aloadN X25 hx (pc' := 45) rfl (hb hby d_prog_64_method_4_code_44) rfl rfl ?_
    refine own_iload X25 hx (pc' := 47) rfl (hb hby d_prog_64_method_4_code_45) rfl ?_
    refine own_ldD X25 hx hZ e25 Arr_19 (k := 0) (by decide) (by decide) (by omega) (v := (.double x0)) ex0 (pc' := 48) rfl (hb hby d_prog_64_method_4_code_47) ?_
    refine own_dstore X25 hx (Ls' := #[.val (.ref a1), .val (.ref aV), .val (.int (3 : Int32)), .val (.ref aS), .val (.ref aC), .val (.ref o3), .val (.int (0 : Int32)), .val (.double x0), .second, .unset, .unset, .unset, .unset]) (pc' := 50) rfl (hb hby d_prog_64_method_4_code_48) rfl ?_
    refine own_aloadN X25 hx (pc' := 51) rfl (hb hby d_prog_64_method_4_code_50) rfl rfl ?_
    refine own_iload X25 hx (pc' := 53) rfl (hb hby d_prog_64_method_4_code_51) rfl ?_
    refine own_ldD X25 hx hZ e25 Arr_21 (k := 0) (by decide) (by decide) (by decide) (v := (.double (FP.l2d (wv 0)))) ev0 (pc' := 54) rfl (hb hby d_prog_64_method_4_code_53) ?_
    refine own_dstore X25 hx (Ls' := #[.val (.ref a1), .val (.ref aV), .val (.int (3 : Int32)), .val (.ref aS), .val (.ref aC), .val (.ref o3), .val (.int (0 : Int32)), .val (.double x0), .second, .val (.double (FP.l2d (wv 0))), .second, .unset, .unset]) (pc' := 56) rfl (hb hby d_prog_64_method_4_code_54) rfl ?_
    refine own_dload X25 hx (pc' := 58) rfl (hb hby d_prog_64_method_4_code_56) rfl ?_
    refine own_dload X25 hx (pc' := 60) rfl (hb hby d_prog_64_method_4_code_58) rfl ?_
    refine own_dadd X25 hx (v := (FP.dadd x0 (FP.l2d (wv 0)))) (pc' := 61) rfl (hb hby d_prog_64_method_4_code_60) ss0.2 rfl ?_
    refine own_dstore X25 hx (Ls' := #[.val (.ref a1), .val (.ref aV), .val (.int (3 : Int32)), .val (.ref aS), .val (.ref aC), .val (.ref o3), .val (.int (0 : Int32)), .val (.double x0), .second, .val (.double (FP.l2d (wv 0))), .second, .val (.double (FP.dadd x0 (FP.l2d (wv 0)))), .second]) (pc' := 63) rfl (hb hby d_prog_64_method_4_code_61) rfl ?_
    refine own_aload X25 hx (pc' := 65) rfl (hb hby d_prog_64_method_4_code_63) rfl rfl ?_
    refine own_iload X25 hx (pc' := 67) rfl (hb hby d_prog_64_method_4_code_65) rfl ?_
    refine own_dup2 X25 hx (pc' := 68) rfl (hb hby d_prog_64_method_4_code_67) rfl rfl ?_
    refine own_ldD X25 hx hZ e25 Arr_20 (k := 0) (by decide) (by decide) (by omega) (v := (.double y0)) ey0 (pc' := 69) rfl (hb hby d_prog_64_method_4_code_68) ?_
    refine own_dload X25 hx (pc' := 71) rfl (hb hby d_prog_64_method_4_code_69) rfl ?_
    refine own_dload X25 hx (pc' := 73) rfl (hb hby d_prog_64_method_4_code_71) rfl ?_
    refine own_dload X25 hx (pc' := 75) rfl (hb hby d_prog_64_method_4_code_73) rfl ?_
    refine own_callS X25 hx hZ (y := (⟨"com/example/ferrule/ferrule/matrix/CompensatedSum", "errorWithoutBranch", "(DDD)D"⟩ : MethodName)) hown (hw _ (List.mem_of_getElem? (i := 49) rfl)) (hw _ (List.mem_of_getElem? (i := 50) rfl)) (hw _ (List.mem_of_getElem? (i := 28) rfl)) (hw _ (List.mem_of_getElem? (i := 51) rfl))  (by decide) (rm_errW l Z a0 hw [] u0 (wv 0).toInt x0 (FP.l2d (wv 0)) (FP.dadd x0 (FP.l2d (wv 0))) h12 n0 Siz_14 dx0 vI0 ss0.1 ⟨by omega, by omega⟩) (by decide) (W := 4) (by decide) (by decide) (by decide) e25 (by rw [hml]; rfl) (argsL := [(.double x0), (.double (FP.l2d (wv 0))), (.double (FP.dadd x0 (FP.l2d (wv 0))))]) (rest := [(.double y0), (.int (0 : Int32)), (.ref aC)]) rfl (lenOf pd__DDD_D rfl) rfl (Nat.le_of_eq rfl) (pc' := 78) rfl (hb hby d_prog_64_method_4_code_75) ?_
    rintro _ T122 L122 X122 ⟨r122, rfl, hr122, N122, e122⟩
    have M122 := Fr.app N12 N122
    show own_Goes p e below T122 (mkF m 78 #[.val (.ref a1), .val (.ref aV), .val (.int (3 : Int32)), .val (.ref aS), .val (.ref aC), .val (.ref o3), .val (.int (0 : Int32)), .val (.double x0), .second, .val (.double (FP.l2d (wv 0))), .second, .val (.double (FP.dadd x0 (FP.l2d (wv 0)))), .second] [(.double r122), (.double y0), (.int (0 : Int32)), (.ref aC)]) _
    refine own_dadd X122 hx (v := (FP.dadd y0 r122)) (pc' := 79) rfl (hb hby d_prog_64_method_4_code_78) (own_addI dy0 hr122 (k := 0) (by omega) (by decide)).2 rfl ?_
    refine own_stD X122 hx hZ e122 Arr_20 (k := 0) (by decide) (by decide) (by omega) (pc' := 80) rfl (hb hby d_prog_64_method_4_code_79) ?_
    intro T123 h123 X123 e123 W123 A123
    have Siz_124 := own_sizWr W123 Siz_14
    have Exa_125 := Exa.wr W123 Exa_15
    have Fld_126 := Fld.other W123 Fld_16 (Or.inl ne_a1_aC)
    have Fld_127 := Fld.other W123 Fld_17 (Or.inl ne_a1_aC)
    have Arr_128 := own_Arr.other W123 Arr_19 ne_aS_aC
    have Arr_130 := own_Arr.other W123 Arr_21 ne_aV_aC
    have Arr_131 := own_Arr.other W123 Arr_22 (Ne.symm ne3_aC)
    have Fld_132 := Fld.other W123 F13 (Or.inl ne_a1_aC)
    have N123 := Fr.snoc X123 M122 ge_aC
    have K123 := Keep.wr K12 W123 (Or.inl (by simp))
    refine own_aloadN X123 hx (pc' := 81) rfl (hb hby d_prog_64_method_4_code_80) rfl rfl ?_
    refine own_iload X123 hx (pc' := 83) rfl (hb hby d_prog_64_method_4_code_81) rfl ?_
    refine own_dload X123 hx (pc' := 85) rfl (hb hby d_prog_64_method_4_code_83) rfl ?_
    refine own_stD X123 hx hZ e123 Arr_128 (k := 0) (by decide) (by decide) (by omega) (pc' := 86) rfl (hb hby d_prog_64_method_4_code_85) ?_
    intro T133 h133 X133 e133 W133 A133
    have Siz_134 := own_sizWr W133 Siz_124
    have Exa_135 := Exa.wr W133 Exa_125
    have Fld_136 := Fld.other W133 Fld_126 (Or.inl ne_a1_aS)
    have Fld_137 := Fld.other W133 Fld_127 (Or.inl ne_a1_aS)
    have Arr_139 := own_Arr.other W133 Arr_130 ne_aV_aS
    have Arr_140 := own_Arr.other W133 Arr_131 (Ne.symm ne3_aS)
    have Fld_141 := Fld.other W133 Fld_132 (Or.inl ne_a1_aS)
    have Arr_142 := own_Arr.other W133 A123 (Ne.symm ne_aS_aC)
    have N133 := Fr.snoc X133 N123 ge_aS
    have K133 := Keep.wr K123 W133 (Or.inl (by simp))
    refine own_aload X133 hx (pc' := 88) rfl (hb hby d_prog_64_method_4_code_86) rfl rfl ?_
    refine own_iload X133 hx (pc' := 90) rfl (hb hby d_prog_64_method_4_code_88) rfl ?_
    refine own_dup2 X133 hx (pc' := 91) rfl (hb hby d_prog_64_method_4_code_90) rfl rfl ?_
    refine own_ldD X133 hx hZ e133 Arr_140 (k := 0) (by decide) (by decide) (by omega) (v := (.double (0 : UInt64))) rfl (pc' := 92) rfl (hb hby d_prog_64_method_4_code_91) ?_
    refine own_dload X133 hx (pc' := 94) rfl (hb hby d_prog_64_method_4_code_92) rfl ?_
    refine own_absD X133 hx hZ hown (hw _ (List.mem_of_getElem? (i := 52) rfl)) (hw _ (List.mem_of_getElem? (i := 31) rfl)) (hw _ (List.mem_of_getElem? (i := 32) rfl)) (hw _ (List.mem_of_getElem? (i := 33) rfl)) e133 (v := (FP.l2d (own_labs (wv 0)))) (own_nnI vI0) lb0.2.1 (by rw [hml]; rfl) (by decide) (W := 4) (Nat.le_of_eq rfl) (by decide) (by decide) (by decide) (pc' := 97) rfl (hb hby d_prog_64_method_4_code_94) ?_
    intro T143 X143 e143
    refine own_dadd X143 hx (v := (FP.dadd (0 : UInt64) (FP.l2d (own_labs (wv 0))))) (pc' := 98) rfl (hb hby d_prog_64_method_4_code_97) mm0.2 rfl ?_
    refine own_stD X143 hx hZ e143 Arr_140 (k := 0) (by decide) (by decide) (by omega) (pc' := 99) rfl (hb hby d_prog_64_method_4_code_98) ?_
    intro T144 h144 X144 e144 W144 A144
    have Siz_145 := own_sizWr W144 Siz_134
    have Exa_146 := Exa.wr W144 Exa_135
    have Fld_147 := Fld.other W144 Fld_136 (Or.inl ne3_a1)
    have Fld_148 := Fld.other W144 Fld_137 (Or.inl ne3_a1)
    have Arr_149 := own_Arr.other W144 Arr_139 ne3_aV
    have Fld_151 := Fld.other W144 Fld_141 (Or.inl ne3_a1)
    have Arr_152 := own_Arr.other W144 Arr_142 ne3_aC
    have Arr_153 := own_Arr.other W144 A133 ne3_aS
    have N144 := Fr.snoc X144 N133 ge3
    have K144 := Keep.wr K133 W144 (Or.inr (Nat.le_trans K0.1 (Nat.le_of_eq g3.symm)))
    refine own_iinc X144 hx (v := (1 : Int32)) (Ls' := #[.val (.ref a1), .val (.ref aV), .val (.int (3 : Int32)), .val (.ref aS), .val (.ref aC), .val (.ref o3), .val (.int (1 : Int32)), .val (.double x0), .second, .val (.double (FP.l2d (wv 0))), .second, .val (.double (FP.dadd x0 (FP.l2d (wv 0)))), .second]) (pc' := 102) rfl (hb hby d_prog_64_method_4_code_99) rfl (by decide) rfl ?_
    refine own_goto X144 hx (pc' := 38) (hb hby d_prog_64_method_4_code_102) (by decide) (by decide) ?_
    refine own_iload X144 hx (pc' := 40) rfl (hb hby d_prog_64_method_4_code_38) rfl ?_
    refine own_iloadN X144 hx (pc' := 41) rfl (hb hby d_prog_64_method_4_code_40) rfl ?_
    refine own_icmpF X144 hx (pc' := 44) rfl (hb hby d_prog_64_method_4_code_41) (XT.ii_ge_f (by decide)) ?_
    refine own_aloadN X144 hx (pc' := 45) rfl (hb hby d_prog_64_method_4_code_44) rfl rfl ?_
    refine own_iload X144 hx (pc' := 47) rfl (hb hby d_prog_64_method_4_code_45) rfl ?_
    refine own_ldD X144 hx hZ e144 Arr_153 (k := 1) (by decide) (by decide) (by omega) (v := (.double x1)) ex1 (pc' := 48) rfl (hb hby d_prog_64_method_4_code_47) ?_
    refine own_dstore X144 hx (Ls' := #[.val (.ref a1), .val (.ref aV), .val (.int (3 : Int32)), .val (.ref aS), .val (.ref aC), .val (.ref o3), .val (.int (1 : Int32)), .val (.double x1), .second, .val (.double (FP.l2d (wv 0))), .second, .val (.double (FP.dadd x0 (FP.l2d (wv 0)))), .second]) (pc' := 50) rfl (hb hby d_prog_64_method_4_code_48) rfl ?_
    refine own_aloadN X144 hx (pc' := 51) rfl (hb hby d_prog_64_method_4_code_50) rfl rfl ?_
    refine own_iload X144 hx (pc' := 53) rfl (hb hby d_prog_64_method_4_code_51) rfl ?_
    refine own_ldD X144 hx hZ e144 Arr_149 (k := 1) (by decide) (by decide) (by decide) (v := (.double (FP.l2d (wv 1)))) ev1 (pc' := 54) rfl (hb hby d_prog_64_method_4_code_53) ?_
    refine own_dstore X144 hx (Ls' := #[.val (.ref a1), .val (.ref aV), .val (.int (3 : Int32)), .val (.ref aS), .val (.ref aC), .val (.ref o3), .val (.int (1 : Int32)), .val (.double x1), .second, .val (.double (FP.l2d (wv 1))), .second, .val (.double (FP.dadd x0 (FP.l2d (wv 0)))), .second]) (pc' := 56) rfl (hb hby d_prog_64_method_4_code_54) rfl ?_
    refine own_dload X144 hx (pc' := 58) rfl (hb hby d_prog_64_method_4_code_56) rfl ?_
    refine own_dload X144 hx (pc' := 60) rfl (hb hby d_prog_64_method_4_code_58) rfl ?_
    refine own_dadd X144 hx (v := (FP.dadd x1 (FP.l2d (wv 1)))) (pc' := 61) rfl (hb hby d_prog_64_method_4_code_60) ss1.2 rfl ?_
    refine own_dstore X144 hx (Ls' := #[.val (.ref a1), .val (.ref aV), .val (.int (3 : Int32)), .val (.ref aS), .val (.ref aC), .val (.ref o3), .val (.int (1 : Int32)), .val (.double x1), .second, .val (.double (FP.l2d (wv 1))), .second, .val (.double (FP.dadd x1 (FP.l2d (wv 1)))), .second]) (pc' := 63) rfl (hb hby d_prog_64_method_4_code_61) rfl ?_
    refine own_aload X144 hx (pc' := 65) rfl (hb hby d_prog_64_method_4_code_63) rfl rfl ?_
    refine own_iload X144 hx (pc' := 67) rfl (hb hby d_prog_64_method_4_code_65) rfl ?_
    refine own_dup2 X144 hx (pc' := 68) rfl (hb hby d_prog_64_method_4_code_67) rfl rfl ?_
    refine own_ldD X144 hx hZ e144 Arr_152 (k := 1) (by decide) (by decide) (by omega) (v := (.double y1)) ey1 (pc' := 69) rfl (hb hby d_prog_64_method_4_code_68) ?_
    refine own_dload X144 hx (pc' := 71) rfl (hb hby d_prog_64_method_4_code_69) rfl ?_
    refine own_dload X144 hx (pc' := 73) rfl (hb hby d_prog_64_method_4_code_71) rfl ?_
    refine own_dload X144 hx (pc' := 75) rfl (hb hby d_prog_64_method_4_code_73) rfl ?_
    refine own_callS X144 hx hZ (y := (⟨"com/example/ferrule/ferrule/matrix/CompensatedSum", "errorWithoutBranch", "(DDD)D"⟩ : MethodName)) hown (hw _ (List.mem_of_getElem? (i := 49) rfl)) (hw _ (List.mem_of_getElem? (i := 50) rfl)) (hw _ (List.mem_of_getElem? (i := 28) rfl)) (hw _ (List.mem_of_getElem? (i := 51) rfl))  (by decide) (rm_errW l Z a0 hw [] u1 (wv 1).toInt x1 (FP.l2d (wv 1)) (FP.dadd x1 (FP.l2d (wv 1))) h144 n0 Siz_145 dx1 vI1 ss1.1 ⟨by omega, by omega⟩) (by decide) (W := 4) (by decide) (by decide) (by decide) e144 (by rw [hml]; rfl) (argsL := [(.double x1), (.double (FP.l2d (wv 1))), (.double (FP.dadd x1 (FP.l2d (wv 1))))]) (rest := [(.double y1), (.int (1 : Int32)), (.ref aC)]) rfl (lenOf pd__DDD_D rfl) rfl (Nat.le_of_eq rfl) (pc' := 78) rfl (hb hby d_prog_64_method_4_code_75) ?_
    rintro _ T154 L154 X154 ⟨r154, rfl, hr154, N154, e154⟩
    have M154 := Fr.app N144 N154
    show own_Goes p e below T154 (mkF m 78 #[.val (.ref a1), .val (.ref aV), .val (.int (3 : Int32)), .val (.ref aS), .val (.ref aC), .val (.ref o3), .val (.int (1 : Int32)), .val (.double x1), .second, .val (.double (FP.l2d (wv 1))), .second, .val (.double (FP.dadd x1 (FP.l2d (wv 1)))), .second] [(.double r154), (.double y1), (.int (1 : Int32)), (.ref aC)]) _
    refine own_dadd X154 hx (v := (FP.dadd y1 r154)) (pc' := 79) rfl (hb hby d_prog_64_method_4_code_78) (own_addI dy1 hr154 (k := 0) (by omega) (by decide)).2 rfl ?_
    refine own_stD X154 hx hZ e154 Arr_152 (k := 1) (by decide) (by decide) (by omega) (pc' := 80) rfl (hb hby d_prog_64_method_4_code_79) ?_
    intro T155 h155 X155 e155 W155 A155
    have Siz_156 := own_sizWr W155 Siz_145
    have Exa_157 := Exa.wr W155 Exa_146
    have Fld_158 := Fld.other W155 Fld_147 (Or.inl ne_a1_aC)
    have Fld_159 := Fld.other W155 Fld_148 (Or.inl ne_a1_aC)
    have Arr_160 := own_Arr.other W155 Arr_149 ne_aV_aC
    have Fld_161 := Fld.other W155 Fld_151 (Or.inl ne_a1_aC)
    have Arr_163 := own_Arr.other W155 Arr_153 ne_aS_aC
    have Arr_164 := own_Arr.other W155 A144 (Ne.symm ne3_aC)
    have N155 := Fr.snoc X155 M154 ge_aC
    have K155 := Keep.wr K144 W155 (Or.inl (by simp))
    refine own_aloadN X155 hx (pc' := 81) rfl (hb hby d_prog_64_method_4_code_80) rfl rfl ?_
    refine own_iload X155 hx (pc' := 83) rfl (hb hby d_prog_64_method_4_code_81) rfl ?_
    refine own_dload X155 hx (pc' := 85) rfl (hb hby d_prog_64_method_4_code_83) rfl ?_
    refine own_stD X155 hx hZ e155 Arr_163 (k := 1) (by decide) (by decide) (by omega) (pc' := 86) rfl (hb hby d_prog_64_method_4_code_85) ?_
    intro T165 h165 X165 e165 W165 A165
    have Siz_166 := own_sizWr W165 Siz_156
    have Exa_167 := Exa.wr W165 Exa_157
    have Fld_168 := Fld.other W165 Fld_158 (Or.inl ne_a1_aS)
    have Fld_169 := Fld.other W165 Fld_159 (Or.inl ne_a1_aS)
    have Arr_170 := own_Arr.other W165 Arr_160 ne_aV_aS
    have Fld_171 := Fld.other W165 Fld_161 (Or.inl ne_a1_aS)
    have Arr_173 := own_Arr.other W165 Arr_164 (Ne.symm ne3_aS)
    have Arr_174 := own_Arr.other W165 A155 (Ne.symm ne_aS_aC)
    have N165 := Fr.snoc X165 N155 ge_aS
    have K165 := Keep.wr K155 W165 (Or.inl (by simp))
    refine own_aload X165 hx (pc' := 88) rfl (hb hby d_prog_64_method_4_code_86) rfl rfl ?_
    refine own_iload X165 hx (pc' := 90) rfl (hb hby d_prog_64_method_4_code_88) rfl ?_
    refine own_dup2 X165 hx (pc' := 91) rfl (hb hby d_prog_64_method_4_code_90) rfl rfl ?_
    refine own_ldD X165 hx hZ e165 Arr_173 (k := 1) (by decide) (by decide) (by omega) (v := (.double (0 : UInt64))) rfl (pc' := 92) rfl (hb hby d_prog_64_method_4_code_91) ?_
    refine own_dload X165 hx (pc' := 94) rfl (hb hby d_prog_64_method_4_code_92) rfl ?_
    refine own_absD X165 hx hZ hown (hw _ (List.mem_of_getElem? (i := 52) rfl)) (hw _ (List.mem_of_getElem? (i := 31) rfl)) (hw _ (List.mem_of_getElem? (i := 32) rfl)) (hw _ (List.mem_of_getElem? (i := 33) rfl)) e165 (v := (FP.l2d (own_labs (wv 1)))) (own_nnI vI1) lb1.2.1 (by rw [hml]; rfl) (by decide) (W := 4) (Nat.le_of_eq rfl) (by decide) (by decide) (by decide) (pc' := 97) rfl (hb hby d_prog_64_method_4_code_94) ?_
    intro T175 X175 e175
    refine own_dadd X175 hx (v := (FP.dadd (0 : UInt64) (FP.l2d (own_labs (wv 1))))) (pc' := 98) rfl (hb hby d_prog_64_method_4_code_97) mm1.2 rfl ?_
    refine own_stD X175 hx hZ e175 Arr_173 (k := 1) (by decide) (by decide) (by omega) (pc' := 99) rfl (hb hby d_prog_64_method_4_code_98) ?_
    intro T176 h176 X176 e176 W176 A176
    have Siz_177 := own_sizWr W176 Siz_166
    have Exa_178 := Exa.wr W176 Exa_167
    have Fld_179 := Fld.other W176 Fld_168 (Or.inl ne3_a1)
    have Fld_180 := Fld.other W176 Fld_169 (Or.inl ne3_a1)
    have Arr_181 := own_Arr.other W176 Arr_170 ne3_aV
    have Fld_182 := Fld.other W176 Fld_171 (Or.inl ne3_a1)
    have Arr_184 := own_Arr.other W176 Arr_174 ne3_aC
    have Arr_185 := own_Arr.other W176 A165 ne3_aS
    have N176 := Fr.snoc X176 N165 ge3
    have K176 := Keep.wr K165 W176 (Or.inr (Nat.le_trans K0.1 (Nat.le_of_eq g3.symm)))
    refine own_iinc X176 hx (v := (2 : Int32)) (Ls' := #[.val (.ref a1), .val (.ref aV), .val (.int (3 : Int32)), .val (.ref aS), .val (.ref aC), .val (.ref o3), .val (.int (2 : Int32)), .val (.double x1), .second, .val (.double (FP.l2d (wv 1))), .second, .val (.double (FP.dadd x1 (FP.l2d (wv 1)))), .second]) (pc' := 102) rfl (hb hby d_prog_64_method_4_code_99) rfl (by decide) rfl ?_
    refine own_goto X176 hx (pc' := 38) (hb hby d_prog_64_method_4_code_102) (by decide) (by decide) ?_
    refine own_iload X176 hx (pc' := 40) rfl (hb hby d_prog_64_method_4_code_38) rfl ?_
    refine own_iloadN X176 hx (pc' := 41) rfl (hb hby d_prog_64_method_4_code_40) rfl ?_
    refine own_icmpF X176 hx (pc' := 44) rfl (hb hby d_prog_64_method_4_code_41) (XT.ii_ge_f (by decide)) ?_
    refine own_aloadN X176 hx (pc' := 45) rfl (hb hby d_prog_64_method_4_code_44) rfl rfl ?_
    refine own_iload X176 hx (pc' := 47) rfl (hb hby d_prog_64_method_4_code_45) rfl ?_
    refine own_ldD X176 hx hZ e176 Arr_185 (k := 2) (by decide) (by decide) (by omega) (v := (.double x2)) ex2 (pc' := 48) rfl (hb hby d_prog_64_method_4_code_47) ?_
    refine own_dstore X176 hx (Ls' := #[.val (.ref a1), .val (.ref aV), .val (.int (3 : Int32)), .val (.ref aS), .val (.ref aC), .val (.ref o3), .val (.int (2 : Int32)), .val (.double x2), .second, .val (.double (FP.l2d (wv 1))), .second, .val (.double (FP.dadd x1 (FP.l2d (wv 1)))), .second]) (pc' := 50) rfl (hb hby d_prog_64_method_4_code_48) rfl ?_
    refine own_aloadN X176 hx (pc' := 51) rfl (hb hby d_prog_64_method_4_code_50) rfl rfl ?_
    refine own_iload X176 hx (pc' := 53) rfl (hb hby d_prog_64_method_4_code_51) rfl ?_
    refine own_ldD X176 hx hZ e176 Arr_181 (k := 2) (by decide) (by decide) (by decide) (v := (.double (FP.l2d (wv 2)))) ev2 (pc' := 54) rfl (hb hby d_prog_64_method_4_code_53) ?_
    refine own_dstore X176 hx (Ls' := #[.val (.ref a1), .val (.ref aV), .val (.int (3 : Int32)), .val (.ref aS), .val (.ref aC), .val (.ref o3), .val (.int (2 : Int32)), .val (.double x2), .second, .val (.double (FP.l2d (wv 2))), .second, .val (.double (FP.dadd x1 (FP.l2d (wv 1)))), .second]) (pc' := 56) rfl (hb hby d_prog_64_method_4_code_54) rfl ?_
    refine own_dload X176 hx (pc' := 58) rfl (hb hby d_prog_64_method_4_code_56) rfl ?_
    refine own_dload X176 hx (pc' := 60) rfl (hb hby d_prog_64_method_4_code_58) rfl ?_
    refine own_dadd X176 hx (v := (FP.dadd x2 (FP.l2d (wv 2)))) (pc' := 61) rfl (hb hby d_prog_64_method_4_code_60) ss2.2 rfl ?_
    refine own_dstore X176 hx (Ls' := #[.val (.ref a1), .val (.ref aV), .val (.int (3 : Int32)), .val (.ref aS), .val (.ref aC), .val (.ref o3), .val (.int (2 : Int32)), .val (.double x2), .second, .val (.double (FP.l2d (wv 2))), .second, .val (.double (FP.dadd x2 (FP.l2d (wv 2)))), .second]) (pc' := 63) rfl (hb hby d_prog_64_method_4_code_61) rfl ?_
    refine own_aload X176 hx (pc' := 65) rfl (hb hby d_prog_64_method_4_code_63) rfl rfl ?_
    refine own_iload X176 hx (pc' := 67) rfl (hb hby d_prog_64_method_4_code_65) rfl ?_
    refine own_dup2 X176 hx (pc' := 68) rfl (hb hby d_prog_64_method_4_code_67) rfl rfl ?_
    refine own_ldD X176 hx hZ e176 Arr_184 (k := 2) (by decide) (by decide) (by omega) (v := (.double y2)) ey2 (pc' := 69) rfl (hb hby d_prog_64_method_4_code_68) ?_
    refine own_dload X176 hx (pc' := 71) rfl (hb hby d_prog_64_method_4_code_69) rfl ?_
    refine own_dload X176 hx (pc' := 73) rfl (hb hby d_prog_64_method_4_code_71) rfl ?_
    refine own_dload X176 hx (pc' := 75) rfl (hb hby d_prog_64_method_4_code_73) rfl ?_
    refine own_callS X176 hx hZ (y := (⟨"com/example/ferrule/ferrule/matrix/CompensatedSum", "errorWithoutBranch", "(DDD)D"⟩ : MethodName)) hown (hw _ (List.mem_of_getElem? (i := 49) rfl)) (hw _ (List.mem_of_getElem? (i := 50) rfl)) (hw _ (List.mem_of_getElem? (i := 28) rfl)) (hw _ (List.mem_of_getElem? (i := 51) rfl))  (by decide) (rm_errW l Z a0 hw [] u2 (wv 2).toInt x2 (FP.l2d (wv 2)) (FP.dadd x2 (FP.l2d (wv 2))) h176 n0 Siz_177 dx2 vI2 ss2.1 ⟨by omega, by omega⟩) (by decide) (W := 4) (by decide) (by decide) (by decide) e176 (by rw [hml]; rfl) (argsL := [(.double x2), (.double (FP.l2d (wv 2))), (.double (FP.dadd x2 (FP.l2d (wv 2))))]) (rest := [(.double y2), (.int (2 : Int32)), (.ref aC)]) rfl (lenOf pd__DDD_D rfl) rfl (Nat.le_of_eq rfl) (pc' := 78) rfl (hb hby d_prog_64_method_4_code_75) ?_
    rintro _ T186 L186 X186 ⟨r186, rfl, hr186, N186, e186⟩
    have M186 := Fr.app N176 N186
    show own_Goes p e below T186 (mkF m 78 #[.val (.ref a1), .val (.ref aV), .val (.int (3 : Int32)), .val (.ref aS), .val (.ref aC), .val (.ref o3), .val (.int (2 : Int32)), .val (.double x2), .second, .val (.double (FP.l2d (wv 2))), .second, .val (.double (FP.dadd x2 (FP.l2d (wv 2)))), .second] [(.double r186), (.double y2), (.int (2 : Int32)), (.ref aC)]) _
    refine own_dadd X186 hx (v := (FP.dadd y2 r186)) (pc' := 79) rfl (hb hby d_prog_64_method_4_code_78) (own_addI dy2 hr186 (k := 0) (by omega) (by decide)).2 rfl ?_
    refine own_stD X186 hx hZ e186 Arr_184 (k := 2) (by decide) (by decide) (by omega) (pc' := 80) rfl (hb hby d_prog_64_method_4_code_79) ?_
    intro T187 h187 X187 e187 W187 A187
    have Siz_188 := own_sizWr W187 Siz_177
    have Exa_189 := Exa.wr W187 Exa_178
    have Fld_190 := Fld.other W187 Fld_179 (Or.inl ne_a1_aC)
    have Fld_191 := Fld.other W187 Fld_180 (Or.inl ne_a1_aC)
    have Arr_192 := own_Arr.other W187 Arr_181 ne_aV_aC
    have Fld_193 := Fld.other W187 Fld_182 (Or.inl ne_a1_aC)
    have Arr_195 := own_Arr.other W187 Arr_185 ne_aS_aC
    have Arr_196 := own_Arr.other W187 A176 (Ne.symm ne3_aC)
    have N187 := Fr.snoc X187 M186 ge_aC
    have K187 := Keep.wr K176 W187 (Or.inl (by simp))
    refine own_aloadN X187 hx (pc' := 81) rfl (hb hby d_prog_64_method_4_code_80) rfl rfl ?_
    refine own_iload X187 hx (pc' := 83) rfl (hb hby d_prog_64_method_4_code_81) rfl ?_
    refine own_dload X187 hx (pc' := 85) rfl (hb hby d_prog_64_method_4_code_83) rfl ?_
    refine own_stD X187 hx hZ e187 Arr_195 (k := 2) (by decide) (by decide) (by omega) (pc' := 86) rfl (hb hby d_prog_64_method_4_code_85) ?_
    intro T197 h197 X197 e197 W197 A197
    have Siz_198 := own_sizWr W197 Siz_188
    have Exa_199 := Exa.wr W197 Exa_189
    have Fld_200 := Fld.other W197 Fld_190 (Or.inl ne_a1_aS)
    have Fld_201 := Fld.other W197 Fld_191 (Or.inl ne_a1_aS)
    have Arr_202 := own_Arr.other W197 Arr_192 ne_aV_aS
    have Fld_203 := Fld.other W197 Fld_193 (Or.inl ne_a1_aS)
    have Arr_205 := own_Arr.other W197 Arr_196 (Ne.symm ne3_aS)
    have Arr_206 := own_Arr.other W197 A187 (Ne.symm ne_aS_aC)
    have N197 := Fr.snoc X197 N187 ge_aS
    have K197 := Keep.wr K187 W197 (Or.inl (by simp))
    refine own_aload X197 hx (pc' := 88) rfl (hb hby d_prog_64_method_4_code_86) rfl rfl ?_
    refine own_iload X197 hx (pc' := 90) rfl (hb hby d_prog_64_method_4_code_88) rfl ?_
    refine own_dup2 X197 hx (pc' := 91) rfl (hb hby d_prog_64_method_4_code_90) rfl rfl ?_
    refine own_ldD X197 hx hZ e197 Arr_205 (k := 2) (by decide) (by decide) (by omega) (v := (.double (0 : UInt64))) rfl (pc' := 92) rfl (hb hby d_prog_64_method_4_code_91) ?_
    refine own_dload X197 hx (pc' := 94) rfl (hb hby d_prog_64_method_4_code_92) rfl ?_
    refine own_absD X197 hx hZ hown (hw _ (List.mem_of_getElem? (i := 52) rfl)) (hw _ (List.mem_of_getElem? (i := 31) rfl)) (hw _ (List.mem_of_getElem? (i := 32) rfl)) (hw _ (List.mem_of_getElem? (i := 33) rfl)) e197 (v := (FP.l2d (own_labs (wv 2)))) (own_nnI vI2) lb2.2.1 (by rw [hml]; rfl) (by decide) (W := 4) (Nat.le_of_eq rfl) (by decide) (by decide) (by decide) (pc' := 97) rfl (hb hby d_prog_64_method_4_code_94) ?_
    intro T207 X207 e207
    refine own_dadd X207 hx (v := (FP.dadd (0 : UInt64) (FP.l2d (own_labs (wv 2))))) (pc' := 98) rfl (hb hby d_prog_64_method_4_code_97) mm2.2 rfl ?_
    refine own_stD X207 hx hZ e207 Arr_205 (k := 2) (by decide) (by decide) (by omega) (pc' := 99) rfl (hb hby d_prog_64_method_4_code_98) ?_
    intro T208 h208 X208 e208 W208 A208
    have Siz_209 := own_sizWr W208 Siz_198
    have Exa_210 := Exa.wr W208 Exa_199
    have Fld_211 := Fld.other W208 Fld_200 (Or.inl ne3_a1)
    have Fld_212 := Fld.other W208 Fld_201 (Or.inl ne3_a1)
    have Arr_213 := own_Arr.other W208 Arr_202 ne3_aV
    have Fld_214 := Fld.other W208 Fld_203 (Or.inl ne3_a1)
    have Arr_216 := own_Arr.other W208 Arr_206 ne3_aC
    have Arr_217 := own_Arr.other W208 A197 ne3_aS
    have N208 := Fr.snoc X208 N197 ge3
    have K208 := Keep.wr K197 W208 (Or.inr (Nat.le_trans K0.1 (Nat.le_of_eq g3.symm)))
    refine own_iinc X208 hx (v := (3 : Int32)) (Ls' := #[.val (.ref a1), .val (.ref aV), .val (.int (3 : Int32)), .val (.ref aS), .val (.ref aC), .val (.ref o3), .val (.int (3 : Int32)), .val (.double x2), .second, .val (.double (FP.l2d (wv 2))), .second, .val (.double (FP.dadd x2 (FP.l2d (wv 2)))), .second]) (pc' := 102) rfl (hb hby d_prog_64_method_4_code_99) rfl (by decide) rfl ?_
    refine own_goto X208 hx (pc' := 38) (hb hby d_prog_64_method_4_code_102) (by decide) (by decide) ?_
    refine own_iload X208 hx (pc' := 40) rfl (hb hby d_prog_64_method_4_code_38) rfl ?_
    refine own_iloadN X208 hx (pc' := 41) rfl (hb hby d_prog_64_method_4_code_40) rfl ?_
    refine own_icmpT X208 hx (pc' := 105) (hb hby d_prog_64_method_4_code_41) (XT.ii_ge_t (by decide)) (by decide) (by decide) ?_
    refine own_ret X208 hx hlk hret (hb hby d_prog_64_method_4_code_105) (by decide) (by decide) ?_
    rw [e208]
    exact ⟨rfl, N208, K208, o3, _, _, _, Fld_211, Fld_212, Fld_214, Arr_217, (own_DB.upd (own_DB.upd (own_DB.upd (hS.mono (by omega)) 0 ss0.1 (by omega)) 1 ss1.1 (by omega)) 2 ss2.1 (by omega)), Arr_216, (own_DB.upd (own_DB.upd (own_DB.upd hC 0 (own_addI dy0 hr122 (k := 0) (by omega) (by decide)).1 (by decide)) 1 (own_addI dy1 hr154 (k := 0) (by omega) (by decide)).1 (by decide)) 2 (own_addI dy2 hr186 (k := 0) (by omega) (by decide)).1 (by decide)), A208, (own_DA.congr (own_DA.upd (own_DA.upd (own_DA.upd (own_DA0 n) 0 mm0.1) 1 mm1.1) 2 mm2.1) (by intro j; rcases j with _ | _ | _ | _ | j <;> first | (simp [own_updG, own_addG]; done) | (simp [own_updG, own_addG]; intro hh; omega))), (Nat.le_trans K0.1 (Nat.le_of_eq g3.symm))⟩
  · obtain ⟨x0, u0, ex0, dx0, bx0⟩ := hS 0 (by omega)
    obtain ⟨y0, t0, ey0, dy0, bY0⟩ := hC 0 (by omega)
    obtain rfl : t0 = 0 := by omega
    obtain ⟨ev0, bv0⟩ := hV 0 (by decide)
    have vI0 := own_vI bv0
    have lb0 := own_labsI bv0
    have ss0 := own_addI dx0 vI0 (k := u0 + (wv 0).toInt) rfl (by omega)
    have dz0 : DInt (own_zf 0) (0 : UInt64) := own_d0
    have gb0 : 0 ≤ own_zf 0 ∧ own_zf 0 ≤ 2 ^ 40 := by decide
    have mm0 := own_addI dz0 lb0.2.2 (k := own_zf 0 + (own_labs (wv 0)).toInt) rfl (by have := lb0.1; omega)
    obtain ⟨x1, u1, ex1, dx1, bx1⟩ := hS 1 (by omega)
    obtain ⟨y1, t1, ey1, dy1, bY1⟩ := hC 1 (by omega)
    obtain rfl : t1 = 0 := by omega
    obtain ⟨ev1, bv1⟩ := hV 1 (by decide)
    have vI1 := own_vI bv1
    have lb1 := own_labsI bv1
    have ss1 := own_addI dx1 vI1 (k := u1 + (wv 1).toInt) rfl (by omega)
    have dz1 : DInt (own_zf 1) (0 : UInt64) := own_d0
    have gb1 : 0 ≤ own_zf 1 ∧ own_zf 1 ≤ 2 ^ 40 := by decide
    have mm1 := own_addI dz1 lb1.2.2 (k := own_zf 1 + (own_labs (wv 1)).toInt) rfl (by have := lb1.1; omega)
    obtain ⟨x2, u2, ex2, dx2, bx2⟩ := hS 2 (by omega)
    obtain ⟨y2, t2, ey2, dy2, bY2⟩ := hC 2 (by omega)
    obtain rfl : t2 = 0 := by omega
    obtain ⟨ev2, bv2⟩ := hV 2 (by decide)
    have vI2 := own_vI bv2
    have lb2 := own_labsI bv2
    have ss2 := own_addI dx2 vI2 (k := u2 + (wv 2).toInt) rfl (by omega)
    have dz2 : DInt (own_zf 2) (0 : UInt64) := own_d0
    have gb2 : 0 ≤ own_zf 2 ∧ own_zf 2 ≤ 2 ^ 40 := by decide
    have mm2 := own_addI dz2 lb2.2.2 (k := own_zf 2 + (own_labs (wv 2)).toInt) rfl (by have := lb2.1; omega)
    obtain ⟨x3, u3, ex3, dx3, bx3⟩ := hS 3 (by omega)
    obtain ⟨y3, t3, ey3, dy3, bY3⟩ := hC 3 (by omega)
    obtain rfl : t3 = 0 := by omega
    obtain ⟨ev3, bv3⟩ := hV 3 (by decide)
    have vI3 := own_vI bv3
    have lb3 := own_labsI bv3
    have ss3 := own_addI dx3 vI3 (k := u3 + (wv 3).toInt) rfl (by omega)
    have dz3 : DInt (own_zf 3) (0 : UInt64) := own_d0
    have gb3 : 0 ≤ own_zf 3 ∧ own_zf 3 ≤ 2 ^ 40 := by decide
    have mm3 := own_addI dz3 lb3.2.2 (k := own_zf 3 + (own_labs (wv 3)).toInt) rfl (by have := lb3.1; omega)
    refine own_iconst X25 hx (v := (0 : Int32)) (pc' := 36) rfl (hb hby d_prog_64_method_4_code_35) rfl ?_
    refine own_istore X25 hx (Ls' := #[.val (.ref a1), .val (.ref aV), .val (.int (4 : Int32)), .val (.ref aS), .val (.ref aC), .val (.ref o3), .val (.int (0 : Int32)), .unset, .unset, .unset, .unset, .unset, .unset]) (pc' := 38) rfl (hb hby d_prog_64_method_4_code_36) rfl ?_
    refine own_iload X25 hx (pc' := 40) rfl (hb hby d_prog_64_method_4_code_38) rfl ?_
    refine own_iloadN X25 hx (pc' := 41) rfl (hb hby d_prog_64_method_4_code_40) rfl ?_
    refine own_icmpF X25 hx (pc' := 44) rfl (hb hby d_prog_64_method_4_code_41) (XT.ii_ge_f (by decide)) ?_
    refine own_aloadN X25 hx (pc' := 45) rfl (hb hby d_prog_64_method_4_code_44) rfl rfl ?_
    refine own_iload X25 hx (pc' := 47) rfl (hb hby d_prog_64_method_4_code_45) rfl ?_
    refine own_ldD X25 hx hZ e25 Arr_19 (k := 0) (by decide) (by decide) (by omega) (v := (.double x0)) ex0 (pc' := 48) rfl (hb hby d_prog_64_method_4_code_47) ?_
    refine own_dstore X25 hx (Ls' := #[.val (.ref a1), .val (.ref aV), .val (.int (4 : Int32)), .val (.ref aS), .val (.ref aC), .val (.ref o3), .val (.int (0 : Int32)), .val (.double x0), .second, .unset, .unset, .unset, .unset]) (pc' := 50) rfl (hb hby d_prog_64_method_4_code_48) rfl ?_
    refine own_aloadN X25 hx (pc' := 51) rfl (hb hby d_prog_64_method_4_code_50) rfl rfl ?_
    refine own_iload X25 hx (pc' := 53) rfl (hb hby d_prog_64_method_4_code_51) rfl ?_
    refine own_ldD X25 hx hZ e25 Arr_21 (k := 0) (by decide) (by decide) (by decide) (v := (.double (FP.l2d (wv 0)))) ev0 (pc' := 54) rfl (hb hby d_prog_64_method_4_code_53) ?_
    refine own_dstore X25 hx (Ls' := #[.val (.ref a1), .val (.ref aV), .val (.int (4 : Int32)), .val (.ref aS), .val (.ref aC), .val (.ref o3), .val (.int (0 : Int32)), .val (.double x0), .second, .val (.double (FP.l2d (wv 0))), .second, .unset, .unset]) (pc' := 56) rfl (hb hby d_prog_64_method_4_code_54) rfl ?_
    refine own_dload X25 hx (pc' := 58) rfl (hb hby d_prog_64_method_4_code_56) rfl ?_
    refine own_dload X25 hx (pc' := 60) rfl (hb hby d_prog_64_method_4_code_58) rfl ?_
    refine own_dadd X25 hx (v := (FP.dadd x0 (FP.l2d (wv 0)))) (pc' := 61) rfl (hb hby d_prog_64_method_4_code_60) ss0.2 rfl ?_
    refine own_dstore X25 hx (Ls' := #[.val (.ref a1), .val (.ref aV), .val (.int (4 : Int32)), .val (.ref aS), .val (.ref aC), .val (.ref o3), .val (.int (0 : Int32)), .val (.double x0), .second, .val (.double (FP.l2d (wv 0))), .second, .val (.double (FP.dadd x0 (FP.l2d (wv 0)))), .second]) (pc' := 63) rfl (hb hby d_prog_64_method_4_code_61) rfl ?_
    refine own_aload X25 hx (pc' := 65) rfl (hb hby d_prog_64_method_4_code_63) rfl rfl ?_
    refine own_iload X25 hx (pc' := 67) rfl (hb hby d_prog_64_method_4_code_65) rfl ?_
    refine own_dup2 X25 hx (pc' := 68) rfl (hb hby d_prog_64_method_4_code_67) rfl rfl ?_
    refine own_ldD X25 hx hZ e25 Arr_20 (k := 0) (by decide) (by decide) (by omega) (v := (.double y0)) ey0 (pc' := 69) rfl (hb hby d_prog_64_method_4_code_68) ?_
    refine own_dload X25 hx (pc' := 71) rfl (hb hby d_prog_64_method_4_code_69) rfl ?_
    refine own_dload X25 hx (pc' := 73) rfl (hb hby d_prog_64_method_4_code_71) rfl ?_
    refine own_dload X25 hx (pc' := 75) rfl (hb hby d_prog_64_method_4_code_73) rfl ?_
    refine own_callS X25 hx hZ (y := (⟨"com/example/ferrule/ferrule/matrix/CompensatedSum", "errorWithoutBranch", "(DDD)D"⟩ : MethodName)) hown (hw _ (List.mem_of_getElem? (i := 49) rfl)) (hw _ (List.mem_of_getElem? (i := 50) rfl)) (hw _ (List.mem_of_getElem? (i := 28) rfl)) (hw _ (List.mem_of_getElem? (i := 51) rfl))  (by decide) (rm_errW l Z a0 hw [] u0 (wv 0).toInt x0 (FP.l2d (wv 0)) (FP.dadd x0 (FP.l2d (wv 0))) h12 n0 Siz_14 dx0 vI0 ss0.1 ⟨by omega, by omega⟩) (by decide) (W := 4) (by decide) (by decide) (by decide) e25 (by rw [hml]; rfl) (argsL := [(.double x0), (.double (FP.l2d (wv 0))), (.double (FP.dadd x0 (FP.l2d (wv 0))))]) (rest := [(.double y0), (.int (0 : Int32)), (.ref aC)]) rfl (lenOf pd__DDD_D rfl) rfl (Nat.le_of_eq rfl) (pc' := 78) rfl (hb hby d_prog_64_method_4_code_75) ?_
    rintro _ T218 L218 X218 ⟨r218, rfl, hr218, N218, e218⟩
    have M218 := Fr.app N12 N218
    show own_Goes p e below T218 (mkF m 78 #[.val (.ref a1), .val (.ref aV), .val (.int (4 : Int32)), .val (.ref aS), .val (.ref aC), .val (.ref o3), .val (.int (0 : Int32)), .val (.double x0), .second, .val (.double (FP.l2d (wv 0))), .second, .val (.double (FP.dadd x0 (FP.l2d (wv 0)))), .second] [(.double r218), (.double y0), (.int (0 : Int32)), (.ref aC)]) _
    refine own_dadd X218 hx (v := (FP.dadd y0 r218)) (pc' := 79) rfl (hb hby d_prog_64_method_4_code_78) (own_addI dy0 hr218 (k := 0) (by omega) (by decide)).2 rfl ?_
    refine own_stD X218 hx hZ e218 Arr_20 (k := 0) (by decide) (by decide) (by omega) (pc' := 80) rfl (hb hby d_prog_64_method_4_code_79) ?_
    intro T219 h219 X219 e219 W219 A219
    have Siz_220 := own_sizWr W219 Siz_14
    have Exa_221 := Exa.wr W219 Exa_15
    have Fld_222 := Fld.other W219 Fld_16 (Or.inl ne_a1_aC)
    have Fld_223 := Fld.other W219 Fld_17 (Or.inl ne_a1_aC)
    have Arr_224 := own_Arr.other W219 Arr_19 ne_aS_aC
    have Arr_226 := own_Arr.other W219 Arr_21 ne_aV_aC
    have Arr_227 := own_Arr.other W219 Arr_22 (Ne.symm ne3_aC)
    have Fld_228 := Fld.other W219 F13 (Or.inl ne_a1_aC)
    have N219 := Fr.snoc X219 M218 ge_aC
    have K219 := Keep.wr K12 W219 (Or.inl (by simp))
    refine own_aloadN X219 hx (pc' := 81) rfl (hb hby d_prog_64_method_4_code_80) rfl rfl ?_
    refine own_iload X219 hx (pc' := 83) rfl (hb hby d_prog_64_method_4_code_81) rfl ?_
    refine own_dload X219 hx (pc' := 85) rfl (hb hby d_prog_64_method_4_code_83) rfl ?_
    refine own_stD X219 hx hZ e219 Arr_224 (k := 0) (by decide) (by decide) (by omega) (pc' := 86) rfl (hb hby d_prog_64_method_4_code_85) ?_
    intro T229 h229 X229 e229 W229 A229
    have Siz_230 := own_sizWr W229 Siz_220
    have Exa_231 := Exa.wr W229 Exa_221
    have Fld_232 := Fld.other W229 Fld_222 (Or.inl ne_a1_aS)
    have Fld_233 := Fld.other W229 Fld_223 (Or.inl ne_a1_aS)
    have Arr_235 := own_Arr.other W229 Arr_226 ne_aV_aS
    have Arr_236 := own_Arr.other W229 Arr_227 (Ne.symm ne3_aS)
    have Fld_237 := Fld.other W229 Fld_228 (Or.inl ne_a1_aS)
    have Arr_238 := own_Arr.other W229 A219 (Ne.symm ne_aS_aC)
    have N229 := Fr.snoc X229 N219 ge_aS
    have K229 := Keep.wr K219 W229 (Or.inl (by simp))
    refine own_aload X229 hx (pc' := 88) rfl (hb hby d_prog_64_method_4_code_86) rfl rfl ?_
    refine own_iload X229 hx (pc' := 90) rfl (hb hby d_prog_64_method_4_code_88) rfl ?_
    refine own_dup2 X229 hx (pc' := 91) rfl (hb hby d_prog_64_method_4_code_90) rfl rfl ?_
    refine own_ldD X229 hx hZ e229 Arr_236 (k := 0) (by decide) (by decide) (by omega) (v := (.double (0 : UInt64))) rfl (pc' := 92) rfl (hb hby d_prog_64_method_4_code_91) ?_
    refine own_dload X229 hx (pc' := 94) rfl (hb hby d_prog_64_method_4_code_92) rfl ?_
    refine own_absD X229 hx hZ hown (hw _ (List.mem_of_getElem? (i := 52) rfl)) (hw _ (List.mem_of_getElem? (i := 31) rfl)) (hw _ (List.mem_of_getElem? (i := 32) rfl)) (hw _ (List.mem_of_getElem? (i := 33) rfl)) e229 (v := (FP.l2d (own_labs (wv 0)))) (own_nnI vI0) lb0.2.1 (by rw [hml]; rfl) (by decide) (W := 4) (Nat.le_of_eq rfl) (by decide) (by decide) (by decide) (pc' := 97) rfl (hb hby d_prog_64_method_4_code_94) ?_
    intro T239 X239 e239
    refine own_dadd X239 hx (v := (FP.dadd (0 : UInt64) (FP.l2d (own_labs (wv 0))))) (pc' := 98) rfl (hb hby d_prog_64_method_4_code_97) mm0.2 rfl ?_
    refine own_stD X239 hx hZ e239 Arr_236 (k := 0) (by decide) (by decide) (by omega) (pc' := 99) rfl (hb hby d_prog_64_method_4_code_98) ?_
    intro T240 h240 X240 e240 W240 A240
    have Siz_241 := own_sizWr W240 Siz_230
    have Exa_242 := Exa.wr W240 Exa_231
    have Fld_243 := Fld.other W240 Fld_232 (Or.inl ne3_a1)
    have Fld_244 := Fld.other W240 Fld_233 (Or.inl ne3_a1)
    have Arr_245 := own_Arr.other W240 Arr_235 ne3_aV
    have Fld_247 := Fld.other W240 Fld_237 (Or.inl ne3_a1)
    have Arr_248 := own_Arr.other W240 Arr_238 ne3_aC
    have Arr_249 := own_Arr.other W240 A229 ne3_aS
    have N240 := Fr.snoc X240 N229 ge3
    have K240 := Keep.wr K229 W240 (Or.inr (Nat.le_trans K0.1 (Nat.le_of_eq g3.symm)))
    refine own_iinc X240 hx (v := (1 : Int32)) (Ls' := #[.val (.ref a1), .val (.ref aV), .val (.int (4 : Int32)), .val (.ref aS), .val (.ref aC), .val (.ref o3), .val (.int (1 : Int32)), .val (.double x0), .second, .val (.double (FP.l2d (wv 0))), .second, .val (.double (FP.dadd x0 (FP.l2d (wv 0)))), .second]) (pc' := 102) rfl (hb hby d_prog_64_method_4_code_99) rfl (by decide) rfl ?_
    refine own_goto X240 hx (pc' := 38) (hb hby d_prog_64_method_4_code_102) (by decide) (by decide) ?_
    refine own_iload X240 hx (pc' := 40) rfl (hb hby d_prog_64_method_4_code_38) rfl ?_
    refine own_iloadN X240 hx (pc' := 41) rfl (hb hby d_prog_64_method_4_code_40) rfl ?_
    refine own_icmpF X240 hx (pc' := 44) rfl (hb hby d_prog_64_method_4_code_41) (XT.ii_ge_f (by decide)) ?_
    refine own_aloadN X240 hx (pc' := 45) rfl (hb hby d_prog_64_method_4_code_44) rfl rfl ?_
    refine own_iload X240 hx (pc' := 47) rfl (hb hby d_prog_64_method_4_code_45) rfl ?_
    refine own_ldD X240 hx hZ e240 Arr_249 (k := 1) (by decide) (by decide) (by omega) (v := (.double x1)) ex1 (pc' := 48) rfl (hb hby d_prog_64_method_4_code_47) ?_
    refine own_dstore X240 hx (Ls' := #[.val (.ref a1), .val (.ref aV), .val (.int (4 : Int32)), .val (.ref aS), .val (.ref aC), .val (.ref o3), .val (.int (1 : Int32)), .val (.double x1), .second, .val (.double (FP.l2d (wv 0))), .second, .val (.double (FP.dadd x0 (FP.l2d (wv 0)))), .second]) (pc' := 50) rfl (hb hby d_prog_64_method_4_code_48) rfl ?_
    refine own_aloadN X240 hx (pc' := 51) rfl (hb hby d_prog_64_method_4_code_50) rfl rfl ?_
    refine own_iload X240 hx (pc' := 53) rfl (hb hby d_prog_64_method_4_code_51) rfl ?_
    refine own_ldD X240 hx hZ e240 Arr_245 (k := 1) (by decide) (by decide) (by decide) (v := (.double (FP.l2d (wv 1)))) ev1 (pc' := 54) rfl (hb hby d_prog_64_method_4_code_53) ?_
    refine own_dstore X240 hx (Ls' := #[.val (.ref a1), .val (.ref aV), .val (.int (4 : Int32)), .val (.ref aS), .val (.ref aC), .val (.ref o3), .val (.int (1 : Int32)), .val (.double x1), .second, .val (.double (FP.l2d (wv 1))), .second, .val (.double (FP.dadd x0 (FP.l2d (wv 0)))), .second]) (pc' := 56) rfl (hb hby d_prog_64_method_4_code_54) rfl ?_
    refine own_dload X240 hx (pc' := 58) rfl (hb hby d_prog_64_method_4_code_56) rfl ?_
    refine own_dload X240 hx (pc' := 60) rfl (hb hby d_prog_64_method_4_code_58) rfl ?_
    refine own_dadd X240 hx (v := (FP.dadd x1 (FP.l2d (wv 1)))) (pc' := 61) rfl (hb hby d_prog_64_method_4_code_60) ss1.2 rfl ?_
    refine own_dstore X240 hx (Ls' := #[.val (.ref a1), .val (.ref aV), .val (.int (4 : Int32)), .val (.ref aS), .val (.ref aC), .val (.ref o3), .val (.int (1 : Int32)), .val (.double x1), .second, .val (.double (FP.l2d (wv 1))), .second, .val (.double (FP.dadd x1 (FP.l2d (wv 1)))), .second]) (pc' := 63) rfl (hb hby d_prog_64_method_4_code_61) rfl ?_
    refine own_aload X240 hx (pc' := 65) rfl (hb hby d_prog_64_method_4_code_63) rfl rfl ?_
    refine own_iload X240 hx (pc' := 67) rfl (hb hby d_prog_64_method_4_code_65) rfl ?_
    refine own_dup2 X240 hx (pc' := 68) rfl (hb hby d_prog_64_method_4_code_67) rfl rfl ?_
    refine own_ldD X240 hx hZ e240 Arr_248 (k := 1) (by decide) (by decide) (by omega) (v := (.double y1)) ey1 (pc' := 69) rfl (hb hby d_prog_64_method_4_code_68) ?_
    refine own_dload X240 hx (pc' := 71) rfl (hb hby d_prog_64_method_4_code_69) rfl ?_
    refine own_dload X240 hx (pc' := 73) rfl (hb hby d_prog_64_method_4_code_71) rfl ?_
    refine own_dload X240 hx (pc' := 75) rfl (hb hby d_prog_64_method_4_code_73) rfl ?_
    refine own_callS X240 hx hZ (y := (⟨"com/example/ferrule/ferrule/matrix/CompensatedSum", "errorWithoutBranch", "(DDD)D"⟩ : MethodName)) hown (hw _ (List.mem_of_getElem? (i := 49) rfl)) (hw _ (List.mem_of_getElem? (i := 50) rfl)) (hw _ (List.mem_of_getElem? (i := 28) rfl)) (hw _ (List.mem_of_getElem? (i := 51) rfl))  (by decide) (rm_errW l Z a0 hw [] u1 (wv 1).toInt x1 (FP.l2d (wv 1)) (FP.dadd x1 (FP.l2d (wv 1))) h240 n0 Siz_241 dx1 vI1 ss1.1 ⟨by omega, by omega⟩) (by decide) (W := 4) (by decide) (by decide) (by decide) e240 (by rw [hml]; rfl) (argsL := [(.double x1), (.double (FP.l2d (wv 1))), (.double (FP.dadd x1 (FP.l2d (wv 1))))]) (rest := [(.double y1), (.int (1 : Int32)), (.ref aC)]) rfl (lenOf pd__DDD_D rfl) rfl (Nat.le_of_eq rfl) (pc' := 78) rfl (hb hby d_prog_64_method_4_code_75) ?_
    rintro _ T250 L250 X250 ⟨r250, rfl, hr250, N250, e250⟩
    have M250 := Fr.app N240 N250
    show own_Goes p e below T250 (mkF m 78 #[.val (.ref a1), .val (.ref aV), .val (.int (4 : Int32)), .val (.ref aS), .val (.ref aC), .val (.ref o3), .val (.int (1 : Int32)), .val (.double x1), .second, .val (.double (FP.l2d (wv 1))), .second, .val (.double (FP.dadd x1 (FP.l2d (wv 1)))), .second] [(.double r250), (.double y1), (.int (1 : Int32)), (.ref aC)]) _
    refine own_dadd X250 hx (v := (FP.dadd y1 r250)) (pc' := 79) rfl (hb hby d_prog_64_method_4_code_78) (own_addI dy1 hr250 (k := 0) (by omega) (by decide)).2 rfl ?_
    refine own_stD X250 hx hZ e250 Arr_248 (k := 1) (by decide) (by decide) (by omega) (pc' := 80) rfl (hb hby d_prog_64_method_4_code_79) ?_
    intro T251 h251 X251 e251 W251 A251
    have Siz_252 := own_sizWr W251 Siz_241
    have Exa_253 := Exa.wr W251 Exa_242
    have Fld_254 := Fld.other W251 Fld_243 (Or.inl ne_a1_aC)
    have Fld_255 := Fld.other W251 Fld_244 (Or.inl ne_a1_aC)
    have Arr_256 := own_Arr.other W251 Arr_245 ne_aV_aC
    have Fld_257 := Fld.other W251 Fld_247 (Or.inl ne_a1_aC)
    have Arr_259 := own_Arr.other W251 Arr_249 ne_aS_aC
    have Arr_260 := own_Arr.other W251 A240 (Ne.symm ne3_aC)
    have N251 := Fr.snoc X251 M250 ge_aC
    have K251 := Keep.wr K240 W251 (Or.inl (by simp))
    refine own_aloadN X251 hx (pc' := 81) rfl (hb hby d_prog_64_method_4_code_80) rfl rfl ?_
    refine own_iload X251 hx (pc' := 83) rfl (hb hby d_prog_64_method_4_code_81) rfl ?_
    refine own_dload X251 hx (pc' := 85) rfl (hb hby d_prog_64_method_4_code_83) rfl ?_
    refine own_stD X251 hx hZ e251 Arr_259 (k := 1) (by decide) (by decide) (by omega) (pc' := 86) rfl (hb hby d_prog_64_method_4_code_85) ?_
    intro T261 h261 X261 e261 W261 A261
    have Siz_262 := own_sizWr W261 Siz_252
    have Exa_263 := Exa.wr W261 Exa_253
    have Fld_264 := Fld.other W261 Fld_254 (Or.inl ne_a1_aS)
    have Fld_265 := Fld.other W261 Fld_255 (Or.inl ne_a1_aS)
    have Arr_266 := own_Arr.other W261 Arr_256 ne_aV_aS
    have Fld_267 := Fld.other W261 Fld_257 (Or.inl ne_a1_aS)
    have Arr_269 := own_Arr.other W261 Arr_260 (Ne.symm ne3_aS)
    have Arr_270 := own_Arr.other W261 A251 (Ne.symm ne_aS_aC)
    have N261 := Fr.snoc X261 N251 ge_aS
    have K261 := Keep.wr K251 W261 (Or.inl (by simp))
    refine own_aload X261 hx (pc' := 88) rfl (hb hby d_prog_64_method_4_code_86) rfl rfl ?_
    refine own_iload X261 hx (pc' := 90) rfl (hb hby d_prog_64_method_4_code_88) rfl ?_
    refine own_dup2 X261 hx (pc' := 91) rfl (hb hby d_prog_64_method_4_code_90) rfl rfl ?_
    refine own_ldD X261 hx hZ e261 Arr_269 (k := 1) (by decide) (by decide) (by omega) (v := (.double (0 : UInt64))) rfl (pc' := 92) rfl (hb hby d_prog_64_method_4_code_91) ?_
    refine own_dload X261 hx (pc' := 94) rfl (hb hby d_prog_64_method_4_code_92) rfl ?_
    refine own_absD X261 hx hZ hown (hw _ (List.mem_of_getElem? (i := 52) rfl)) (hw _ (List.mem_of_getElem? (i := 31) rfl)) (hw _ (List.mem_of_getElem? (i := 32) rfl)) (hw _ (List.mem_of_getElem? (i := 33) rfl)) e261 (v := (FP.l2d (own_labs (wv 1)))) (own_nnI vI1) lb1.2.1 (by rw [hml]; rfl) (by decide) (W := 4) (Nat.le_of_eq rfl) (by decide) (by decide) (by decide) (pc' := 97) rfl (hb hby d_prog_64_method_4_code_94) ?_
    intro T271 X271 e271
    refine own_dadd X271 hx (v := (FP.dadd (0 : UInt64) (FP.l2d (own_labs (wv 1))))) (pc' := 98) rfl (hb hby d_prog_64_method_4_code_97) mm1.2 rfl ?_
    refine own_stD X271 hx hZ e271 Arr_269 (k := 1) (by decide) (by decide) (by omega) (pc' := 99) rfl (hb hby d_prog_64_method_4_code_98) ?_
    intro T272 h272 X272 e272 W272 A272
    have Siz_273 := own_sizWr W272 Siz_262
    have Exa_274 := Exa.wr W272 Exa_263
    have Fld_275 := Fld.other W272 Fld_264 (Or.inl ne3_a1)
    have Fld_276 := Fld.other W272 Fld_265 (Or.inl ne3_a1)
    have Arr_277 := own_Arr.other W272 Arr_266 ne3_aV
    have Fld_278 := Fld.other W272 Fld_267 (Or.inl ne3_a1)
    have Arr_280 := own_Arr.other W272 Arr_270 ne3_aC
    have Arr_281 := own_Arr.other W272 A261 ne3_aS
    have N272 := Fr.snoc X272 N261 ge3
    have K272 := Keep.wr K261 W272 (Or.inr (Nat.le_trans K0.1 (Nat.le_of_eq g3.symm)))
    refine own_iinc X272 hx (v := (2 : Int32)) (Ls' := #[.val (.ref a1), .val (.ref aV), .val (.int (4 : Int32)), .val (.ref aS), .val (.ref aC), .val (.ref o3), .val (.int (2 : Int32)), .val (.double x1), .second, .val (.double (FP.l2d (wv 1))), .second, .val (.double (FP.dadd x1 (FP.l2d (wv 1)))), .second]) (pc' := 102) rfl (hb hby d_prog_64_method_4_code_99) rfl (by decide) rfl ?_
    refine own_goto X272 hx (pc' := 38) (hb hby d_prog_64_method_4_code_102) (by decide) (by decide) ?_
    refine own_iload X272 hx (pc' := 40) rfl (hb hby d_prog_64_method_4_code_38) rfl ?_
    refine own_iloadN X272 hx (pc' := 41) rfl (hb hby d_prog_64_method_4_code_40) rfl ?_
    refine own_icmpF X272 hx (pc' := 44) rfl (hb hby d_prog_64_method_4_code_41) (XT.ii_ge_f (by decide)) ?_
    refine own_aloadN X272 hx (pc' := 45) rfl (hb hby d_prog_64_method_4_code_44) rfl rfl ?_
    refine own_iload X272 hx (pc' := 47) rfl (hb hby d_prog_64_method_4_code_45) rfl ?_
    refine own_ldD X272 hx hZ e272 Arr_281 (k := 2) (by decide) (by decide) (by omega) (v := (.double x2)) ex2 (pc' := 48) rfl (hb hby d_prog_64_method_4_code_47) ?_
    refine own_dstore X272 hx (Ls' := #[.val (.ref a1), .val (.ref aV), .val (.int (4 : Int32)), .val (.ref aS), .val (.ref aC), .val (.ref o3), .val (.int (2 : Int32)), .val (.double x2), .second, .val (.double (FP.l2d (wv 1))), .second, .val (.double (FP.dadd x1 (FP.l2d (wv 1)))), .second]) (pc' := 50) rfl (hb hby d_prog_64_method_4_code_48) rfl ?_
    refine own_aloadN X272 hx (pc' := 51) rfl (hb hby d_prog_64_method_4_code_50) rfl rfl ?_
    refine own_iload X272 hx (pc' := 53) rfl (hb hby d_prog_64_method_4_code_51) rfl ?_
    refine own_ldD X272 hx hZ e272 Arr_277 (k := 2) (by decide) (by decide) (by decide) (v := (.double (FP.l2d (wv 2)))) ev2 (pc' := 54) rfl (hb hby d_prog_64_method_4_code_53) ?_
    refine own_dstore X272 hx (Ls' := #[.val (.ref a1), .val (.ref aV), .val (.int (4 : Int32)), .val (.ref aS), .val (.ref aC), .val (.ref o3), .val (.int (2 : Int32)), .val (.double x2), .second, .val (.double (FP.l2d (wv 2))), .second, .val (.double (FP.dadd x1 (FP.l2d (wv 1)))), .second]) (pc' := 56) rfl (hb hby d_prog_64_method_4_code_54) rfl ?_
    refine own_dload X272 hx (pc' := 58) rfl (hb hby d_prog_64_method_4_code_56) rfl ?_
    refine own_dload X272 hx (pc' := 60) rfl (hb hby d_prog_64_method_4_code_58) rfl ?_
    refine own_dadd X272 hx (v := (FP.dadd x2 (FP.l2d (wv 2)))) (pc' := 61) rfl (hb hby d_prog_64_method_4_code_60) ss2.2 rfl ?_
    refine own_dstore X272 hx (Ls' := #[.val (.ref a1), .val (.ref aV), .val (.int (4 : Int32)), .val (.ref aS), .val (.ref aC), .val (.ref o3), .val (.int (2 : Int32)), .val (.double x2), .second, .val (.double (FP.l2d (wv 2))), .second, .val (.double (FP.dadd x2 (FP.l2d (wv 2)))), .second]) (pc' := 63) rfl (hb hby d_prog_64_method_4_code_61) rfl ?_
    refine own_aload X272 hx (pc' := 65) rfl (hb hby d_prog_64_method_4_code_63) rfl rfl ?_
    refine own_iload X272 hx (pc' := 67) rfl (hb hby d_prog_64_method_4_code_65) rfl ?_
    refine own_dup2 X272 hx (pc' := 68) rfl (hb hby d_prog_64_method_4_code_67) rfl rfl ?_
    refine own_ldD X272 hx hZ e272 Arr_280 (k := 2) (by decide) (by decide) (by omega) (v := (.double y2)) ey2 (pc' := 69) rfl (hb hby d_prog_64_method_4_code_68) ?_
    refine own_dload X272 hx (pc' := 71) rfl (hb hby d_prog_64_method_4_code_69) rfl ?_
    refine own_dload X272 hx (pc' := 73) rfl (hb hby d_prog_64_method_4_code_71) rfl ?_
    refine own_dload X272 hx (pc' := 75) rfl (hb hby d_prog_64_method_4_code_73) rfl ?_
    refine own_callS X272 hx hZ (y := (⟨"com/example/ferrule/ferrule/matrix/CompensatedSum", "errorWithoutBranch", "(DDD)D"⟩ : MethodName)) hown (hw _ (List.mem_of_getElem? (i := 49) rfl)) (hw _ (List.mem_of_getElem? (i := 50) rfl)) (hw _ (List.mem_of_getElem? (i := 28) rfl)) (hw _ (List.mem_of_getElem? (i := 51) rfl))  (by decide) (rm_errW l Z a0 hw [] u2 (wv 2).toInt x2 (FP.l2d (wv 2)) (FP.dadd x2 (FP.l2d (wv 2))) h272 n0 Siz_273 dx2 vI2 ss2.1 ⟨by omega, by omega⟩) (by decide) (W := 4) (by decide) (by decide) (by decide) e272 (by rw [hml]; rfl) (argsL := [(.double x2), (.double (FP.l2d (wv 2))), (.double (FP.dadd x2 (FP.l2d (wv 2))))]) (rest := [(.double y2), (.int (2 : Int32)), (.ref aC)]) rfl (lenOf pd__DDD_D rfl) rfl (Nat.le_of_eq rfl) (pc' := 78) rfl (hb hby d_prog_64_method_4_code_75) ?_
    rintro _ T282 L282 X282 ⟨r282, rfl, hr282, N282, e282⟩
    have M282 := Fr.app N272 N282
    show own_Goes p e below T282 (mkF m 78 #[.val (.ref a1), .val (.ref aV), .val (.int (4 : Int32)), .val (.ref aS), .val (.ref aC), .val (.ref o3), .val (.int (2 : Int32)), .val (.double x2), .second, .val (.double (FP.l2d (wv 2))), .second, .val (.double (FP.dadd x2 (FP.l2d (wv 2)))), .second] [(.double r282), (.double y2), (.int (2 : Int32)), (.ref aC)]) _
    refine own_dadd X282 hx (v := (FP.dadd y2 r282)) (pc' := 79) rfl (hb hby d_prog_64_method_4_code_78) (own_addI dy2 hr282 (k := 0) (by omega) (by decide)).2 rfl ?_
    refine own_stD X282 hx hZ e282 Arr_280 (k := 2) (by decide) (by decide) (by omega) (pc' := 80) rfl (hb hby d_prog_64_method_4_code_79) ?_
    intro T283 h283 X283 e283 W283 A283
    have Siz_284 := own_sizWr W283 Siz_273
    have Exa_285 := Exa.wr W283 Exa_274
    have Fld_286 := Fld.other W283 Fld_275 (Or.inl ne_a1_aC)
    have Fld_287 := Fld.other W283 Fld_276 (Or.inl ne_a1_aC)
    have Arr_288 := own_Arr.other W283 Arr_277 ne_aV_aC
    have Fld_289 := Fld.other W283 Fld_278 (Or.inl ne_a1_aC)
    have Arr_291 := own_Arr.other W283 Arr_281 ne_aS_aC
    have Arr_292 := own_Arr.other W283 A272 (Ne.symm ne3_aC)
    have N283 := Fr.snoc X283 M282 ge_aC
    have K283 := Keep.wr K272 W283 (Or.inl (by simp))
    refine own_aloadN X283 hx (pc' := 81) rfl (hb hby d_prog_64_method_4_code_80) rfl rfl ?_
    refine own_iload X283 hx (pc' := 83) rfl (hb hby d_prog_64_method_4_code_81) rfl ?_
    refine own_dload X283 hx (pc' := 85) rfl (hb hby d_prog_64_method_4_code_83) rfl ?_
    refine own_stD X283 hx hZ e283 Arr_291 (k := 2) (by decide) (by decide) (by omega) (pc' := 86) rfl (hb hby d_prog_64_method_4_code_85) ?_
    intro T293 h293 X293 e293 W293 A293
    have Siz_294 := own_sizWr W293 Siz_284
    have Exa_295 := Exa.wr W293 Exa_285
    have Fld_296 := Fld.other W293 Fld_286 (Or.inl ne_a1_aS)
    have Fld_297 := Fld.other W293 Fld_287 (Or.inl ne_a1_aS)
    have Arr_298 := own_Arr.other W293 Arr_288 ne_aV_aS
    have Fld_299 := Fld.other W293 Fld_289 (Or.inl ne_a1_aS)
    have Arr_301 := own_Arr.other W293 Arr_292 (Ne.symm ne3_aS)
    have Arr_302 := own_Arr.other W293 A283 (Ne.symm ne_aS_aC)
    have N293 := Fr.snoc X293 N283 ge_aS
    have K293 := Keep.wr K283 W293 (Or.inl (by simp))
    refine own_aload X293 hx (pc' := 88) rfl (hb hby d_prog_64_method_4_code_86) rfl rfl ?_
    refine own_iload X293 hx (pc' := 90) rfl (hb hby d_prog_64_method_4_code_88) rfl ?_
    refine own_dup2 X293 hx (pc' := 91) rfl (hb hby d_prog_64_method_4_code_90) rfl rfl ?_
    refine own_ldD X293 hx hZ e293 Arr_301 (k := 2) (by decide) (by decide) (by omega) (v := (.double (0 : UInt64))) rfl (pc' := 92) rfl (hb hby d_prog_64_method_4_code_91) ?_
    refine own_dload X293 hx (pc' := 94) rfl (hb hby d_prog_64_method_4_code_92) rfl ?_
    refine own_absD X293 hx hZ hown (hw _ (List.mem_of_getElem? (i := 52) rfl)) (hw _ (List.mem_of_getElem? (i := 31) rfl)) (hw _ (List.mem_of_getElem? (i := 32) rfl)) (hw _ (List.mem_of_getElem? (i := 33) rfl)) e293 (v := (FP.l2d (own_labs (wv 2)))) (own_nnI vI2) lb2.2.1 (by rw [hml]; rfl) (by decide) (W := 4) (Nat.le_of_eq rfl) (by decide) (by decide) (by decide) (pc' := 97) rfl (hb hby d_prog_64_method_4_code_94) ?_
    intro T303 X303 e303
    refine own_dadd X303 hx (v := (FP.dadd (0 : UInt64) (FP.l2d (own_labs (wv 2))))) (pc' := 98) rfl (hb hby d_prog_64_method_4_code_97) mm2.2 rfl ?_
    refine own_stD X303 hx hZ e303 Arr_301 (k := 2) (by decide) (by decide) (by omega) (pc' := 99) rfl (hb hby d_prog_64_method_4_code_98) ?_
    intro T304 h304 X304 e304 W304 A304
    have Siz_305 := own_sizWr W304 Siz_294
    have Exa_306 := Exa.wr W304 Exa_295
    have Fld_307 := Fld.other W304 Fld_296 (Or.inl ne3_a1)
    have Fld_308 := Fld.other W304 Fld_297 (Or.inl ne3_a1)
    have Arr_309 := own_Arr.other W304 Arr_298 ne3_aV
    have Fld_310 := Fld.other W304 Fld_299 (Or.inl ne3_a1)
    have Arr_312 := own_Arr.other W304 Arr_302 ne3_aC
    have Arr_313 := own_Arr.other W304 A293 ne3_aS
    have N304 := Fr.snoc X304 N293 ge3
    have K304 := Keep.wr K293 W304 (Or.inr (Nat.le_trans K0.1 (Nat.le_of_eq g3.symm)))
    refine own_iinc X304 hx (v := (3 : Int32)) (Ls' := #[.val (.ref a1), .val (.ref aV), .val (.int (4 : Int32)), .val (.ref aS), .val (.ref aC), .val (.ref o3), .val (.int (3 : Int32)), .val (.double x2), .second, .val (.double (FP.l2d (wv 2))), .second, .val (.double (FP.dadd x2 (FP.l2d (wv 2)))), .second]) (pc' := 102) rfl (hb hby d_prog_64_method_4_code_99) rfl (by decide) rfl ?_
    refine own_goto X304 hx (pc' := 38) (hb hby d_prog_64_method_4_code_102) (by decide) (by decide) ?_
    refine own_iload X304 hx (pc' := 40) rfl (hb hby d_prog_64_method_4_code_38) rfl ?_
    refine own_iloadN X304 hx (pc' := 41) rfl (hb hby d_prog_64_method_4_code_40) rfl ?_
    refine own_icmpF X304 hx (pc' := 44) rfl (hb hby d_prog_64_method_4_code_41) (XT.ii_ge_f (by decide)) ?_
    refine own_aloadN X304 hx (pc' := 45) rfl (hb hby d_prog_64_method_4_code_44) rfl rfl ?_
    refine own_iload X304 hx (pc' := 47) rfl (hb hby d_prog_64_method_4_code_45) rfl ?_
    refine own_ldD X304 hx hZ e304 Arr_313 (k := 3) (by decide) (by decide) (by omega) (v := (.double x3)) ex3 (pc' := 48) rfl (hb hby d_prog_64_method_4_code_47) ?_
    refine own_dstore X304 hx (Ls' := #[.val (.ref a1), .val (.ref aV), .val (.int (4 : Int32)), .val (.ref aS), .val (.ref aC), .val (.ref o3), .val (.int (3 : Int32)), .val (.double x3), .second, .val (.double (FP.l2d (wv 2))), .second, .val (.double (FP.dadd x2 (FP.l2d (wv 2)))), .second]) (pc' := 50) rfl (hb hby d_prog_64_method_4_code_48) rfl ?_
    refine own_aloadN X304 hx (pc' := 51) rfl (hb hby d_prog_64_method_4_code_50) rfl rfl ?_
    refine own_iload X304 hx (pc' := 53) rfl (hb hby d_prog_64_method_4_code_51) rfl ?_
    refine own_ldD X304 hx hZ e304 Arr_309 (k := 3) (by decide) (by decide) (by decide) (v := (.double (FP.l2d (wv 3)))) ev3 (pc' := 54) rfl (hb hby d_prog_64_method_4_code_53) ?_
    refine own_dstore X304 hx (Ls' := #[.val (.ref a1), .val (.ref aV), .val (.int (4 : Int32)), .val (.ref aS), .val (.ref aC), .val (.ref o3), .val (.int (3 : Int32)), .val (.double x3), .second, .val (.double (FP.l2d (wv 3))), .second, .val (.double (FP.dadd x2 (FP.l2d (wv 2)))), .second]) (pc' := 56) rfl (hb hby d_prog_64_method_4_code_54) rfl ?_
    refine own_dload X304 hx (pc' := 58) rfl (hb hby d_prog_64_method_4_code_56) rfl ?_
    refine own_dload X304 hx (pc' := 60) rfl (hb hby d_prog_64_method_4_code_58) rfl ?_
    refine own_dadd X304 hx (v := (FP.dadd x3 (FP.l2d (wv 3)))) (pc' := 61) rfl (hb hby d_prog_64_method_4_code_60) ss3.2 rfl ?_
    refine own_dstore X304 hx (Ls' := #[.val (.ref a1), .val (.ref aV), .val (.int (4 : Int32)), .val (.ref aS), .val (.ref aC), .val (.ref o3), .val (.int (3 : Int32)), .val (.double x3), .second, .val (.double (FP.l2d (wv 3))), .second, .val (.double (FP.dadd x3 (FP.l2d (wv 3)))), .second]) (pc' := 63) rfl (hb hby d_prog_64_method_4_code_61) rfl ?_
    refine own_aload X304 hx (pc' := 65) rfl (hb hby d_prog_64_method_4_code_63) rfl rfl ?_
    refine own_iload X304 hx (pc' := 67) rfl (hb hby d_prog_64_method_4_code_65) rfl ?_
    refine own_dup2 X304 hx (pc' := 68) rfl (hb hby d_prog_64_method_4_code_67) rfl rfl ?_
    refine own_ldD X304 hx hZ e304 Arr_312 (k := 3) (by decide) (by decide) (by omega) (v := (.double y3)) ey3 (pc' := 69) rfl (hb hby d_prog_64_method_4_code_68) ?_
    refine own_dload X304 hx (pc' := 71) rfl (hb hby d_prog_64_method_4_code_69) rfl ?_
    refine own_dload X304 hx (pc' := 73) rfl (hb hby d_prog_64_method_4_code_71) rfl ?_
    refine own_dload X304 hx (pc' := 75) rfl (hb hby d_prog_64_method_4_code_73) rfl ?_
    refine own_callS X304 hx hZ (y := (⟨"com/example/ferrule/ferrule/matrix/CompensatedSum", "errorWithoutBranch", "(DDD)D"⟩ : MethodName)) hown (hw _ (List.mem_of_getElem? (i := 49) rfl)) (hw _ (List.mem_of_getElem? (i := 50) rfl)) (hw _ (List.mem_of_getElem? (i := 28) rfl)) (hw _ (List.mem_of_getElem? (i := 51) rfl))  (by decide) (rm_errW l Z a0 hw [] u3 (wv 3).toInt x3 (FP.l2d (wv 3)) (FP.dadd x3 (FP.l2d (wv 3))) h304 n0 Siz_305 dx3 vI3 ss3.1 ⟨by omega, by omega⟩) (by decide) (W := 4) (by decide) (by decide) (by decide) e304 (by rw [hml]; rfl) (argsL := [(.double x3), (.double (FP.l2d (wv 3))), (.double (FP.dadd x3 (FP.l2d (wv 3))))]) (rest := [(.double y3), (.int (3 : Int32)), (.ref aC)]) rfl (lenOf pd__DDD_D rfl) rfl (Nat.le_of_eq rfl) (pc' := 78) rfl (hb hby d_prog_64_method_4_code_75) ?_
    rintro _ T314 L314 X314 ⟨r314, rfl, hr314, N314, e314⟩
    have M314 := Fr.app N304 N314
    show own_Goes p e below T314 (mkF m 78 #[.val (.ref a1), .val (.ref aV), .val (.int (4 : Int32)), .val (.ref aS), .val (.ref aC), .val (.ref o3), .val (.int (3 : Int32)), .val (.double x3), .second, .val (.double (FP.l2d (wv 3))), .second, .val (.double (FP.dadd x3 (FP.l2d (wv 3)))), .second] [(.double r314), (.double y3), (.int (3 : Int32)), (.ref aC)]) _
    refine own_dadd X314 hx (v := (FP.dadd y3 r314)) (pc' := 79) rfl (hb hby d_prog_64_method_4_code_78) (own_addI dy3 hr314 (k := 0) (by omega) (by decide)).2 rfl ?_
    refine own_stD X314 hx hZ e314 Arr_312 (k := 3) (by decide) (by decide) (by omega) (pc' := 80) rfl (hb hby d_prog_64_method_4_code_79) ?_
    intro T315 h315 X315 e315 W315 A315
    have Siz_316 := own_sizWr W315 Siz_305
    have Exa_317 := Exa.wr W315 Exa_306
    have Fld_318 := Fld.other W315 Fld_307 (Or.inl ne_a1_aC)
    have Fld_319 := Fld.other W315 Fld_308 (Or.inl ne_a1_aC)
    have Arr_320 := own_Arr.other W315 Arr_309 ne_aV_aC
    have Fld_321 := Fld.other W315 Fld_310 (Or.inl ne_a1_aC)
    have Arr_323 := own_Arr.other W315 Arr_313 ne_aS_aC
    have Arr_324 := own_Arr.other W315 A304 (Ne.symm ne3_aC)
    have N315 := Fr.snoc X315 M314 ge_aC
    have K315 := Keep.wr K304 W315 (Or.inl (by simp))
    refine own_aloadN X315 hx (pc' := 81) rfl (hb hby d_prog_64_method_4_code_80) rfl rfl ?_
    refine own_iload X315 hx (pc' := 83) rfl (hb hby d_prog_64_method_4_code_81) rfl ?_
    refine own_dload X315 hx (pc' := 85) rfl (hb hby d_prog_64_method_4_code_83) rfl ?_
    refine own_stD X315 hx hZ e315 Arr_323 (k := 3) (by decide) (by decide) (by omega) (pc' := 86) rfl (hb hby d_prog_64_method_4_code_85) ?_
    intro T325 h325 X325 e325 W325 A325
    have Siz_326 := own_sizWr W325 Siz_316
    have Exa_327 := Exa.wr W325 Exa_317
    have Fld_328 := Fld.other W325 Fld_318 (Or.inl ne_a1_aS)
    have Fld_329 := Fld.other W325 Fld_319 (Or.inl ne_a1_aS)
    have Arr_330 := own_Arr.other W325 Arr_320 ne_aV_aS
    have Fld_331 := Fld.other W325 Fld_321 (Or.inl ne_a1_aS)
    have Arr_333 := own_Arr.other W325 Arr_324 (Ne.symm ne3_aS)
    have Arr_334 := own_Arr.other W325 A315 (Ne.symm ne_aS_aC)
    have N325 := Fr.snoc X325 N315 ge_aS
    have K325 := Keep.wr K315 W325 (Or.inl (by simp))
    refine own_aload X325 hx (pc' := 88) rfl (hb hby d_prog_64_method_4_code_86) rfl rfl ?_
    refine own_iload X325 hx (pc' := 90) rfl (hb hby d_prog_64_method_4_code_88) rfl ?_
    refine own_dup2 X325 hx (pc' := 91) rfl (hb hby d_prog_64_method_4_code_90) rfl rfl ?_
    refine own_ldD X325 hx hZ e325 Arr_333 (k := 3) (by decide) (by decide) (by omega) (v := (.double (0 : UInt64))) rfl (pc' := 92) rfl (hb hby d_prog_64_method_4_code_91) ?_
    refine own_dload X325 hx (pc' := 94) rfl (hb hby d_prog_64_method_4_code_92) rfl ?_
    refine own_absD X325 hx hZ hown (hw _ (List.mem_of_getElem? (i := 52) rfl)) (hw _ (List.mem_of_getElem? (i := 31) rfl)) (hw _ (List.mem_of_getElem? (i := 32) rfl)) (hw _ (List.mem_of_getElem? (i := 33) rfl)) e325 (v := (FP.l2d (own_labs (wv 3)))) (own_nnI vI3) lb3.2.1 (by rw [hml]; rfl) (by decide) (W := 4) (Nat.le_of_eq rfl) (by decide) (by decide) (by decide) (pc' := 97) rfl (hb hby d_prog_64_method_4_code_94) ?_
    intro T335 X335 e335
    refine own_dadd X335 hx (v := (FP.dadd (0 : UInt64) (FP.l2d (own_labs (wv 3))))) (pc' := 98) rfl (hb hby d_prog_64_method_4_code_97) mm3.2 rfl ?_
    refine own_stD X335 hx hZ e335 Arr_333 (k := 3) (by decide) (by decide) (by omega) (pc' := 99) rfl (hb hby d_prog_64_method_4_code_98) ?_
    intro T336 h336 X336 e336 W336 A336
    have Siz_337 := own_sizWr W336 Siz_326
    have Exa_338 := Exa.wr W336 Exa_327
    have Fld_339 := Fld.other W336 Fld_328 (Or.inl ne3_a1)
    have Fld_340 := Fld.other W336 Fld_329 (Or.inl ne3_a1)
    have Arr_341 := own_Arr.other W336 Arr_330 ne3_aV
    have Fld_342 := Fld.other W336 Fld_331 (Or.inl ne3_a1)
    have Arr_344 := own_Arr.other W336 Arr_334 ne3_aC
    have Arr_345 := own_Arr.other W336 A325 ne3_aS
    have N336 := Fr.snoc X336 N325 ge3
    have K336 := Keep.wr K325 W336 (Or.inr (Nat.le_trans K0.1 (Nat.le_of_eq g3.symm)))
    refine own_iinc X336 hx (v := (4 : Int32)) (Ls' := #[.val (.ref a1), .val (.ref aV), .val (.int (4 : Int32)), .val (.ref aS), .val (.ref aC), .val (.ref o3), .val (.int (4 : Int32)), .val (.double x3), .second, .val (.double (FP.l2d (wv 3))), .second, .val (.double (FP.dadd x3 (FP.l2d (wv 3)))), .second]) (pc' := 102) rfl (hb hby d_prog_64_method_4_code_99) rfl (by decide) rfl ?_
    refine own_goto X336 hx (pc' := 38) (hb hby d_prog_64_method_4_code_102) (by decide) (by decide) ?_
    refine own_iload X336 hx (pc' := 40) rfl (hb hby d_prog_64_method_4_code_38) rfl ?_
    refine own_iloadN X336 hx (pc' := 41) rfl (hb hby d_prog_64_method_4_code_40) rfl ?_
    refine own_icmpT X336 hx (pc' := 105) (hb hby d_prog_64_method_4_code_41) (XT.ii_ge_t (by decide)) (by decide) (by decide) ?_
    refine own_ret X336 hx hlk hret (hb hby d_prog_64_method_4_code_105) (by decide) (by decide) ?_
    rw [e336]
    exact ⟨rfl, N336, K336, o3, _, _, _, Fld_339, Fld_340, Fld_342, Arr_345, (own_DB.upd (own_DB.upd (own_DB.upd (own_DB.upd (hS.mono (by omega)) 0 ss0.1 (by omega)) 1 ss1.1 (by omega)) 2 ss2.1 (by omega)) 3 ss3.1 (by omega)), Arr_344, (own_DB.upd (own_DB.upd (own_DB.upd (own_DB.upd hC 0 (own_addI dy0 hr218 (k := 0) (by omega) (by decide)).1 (by decide)) 1 (own_addI dy1 hr250 (k := 0) (by omega) (by decide)).1 (by decide)) 2 (own_addI dy2 hr282 (k := 0) (by omega) (by decide)).1 (by decide)) 3 (own_addI dy3 hr314 (k := 0) (by omega) (by decide)).1 (by decide)), A336, (own_DA.congr (own_DA.upd (own_DA.upd (own_DA.upd (own_DA.upd (own_DA0 n) 0 mm0.1) 1 mm1.1) 2 mm2.1) 3 mm3.1) (by intro j; rcases j with _ | _ | _ | _ | j <;> first | (simp [own_updG, own_addG]; done) | (simp [own_updG, own_addG]; intro hh; omega))), (Nat.le_trans K0.1 (Nat.le_of_eq g3.symm))⟩
theorem ef_rm_addM (m : MethodId) (a1 : Addr) (aV : Addr) (p3 : Int32) : entryFrame m #[(.ref a1), (.ref aV), (.int p3)] 13 = mkF m 0 #[.val (.ref a1), .val (.ref aV), .val (.int p3), .unset, .unset, .unset, .unset, .unset, .unset, .unset, .unset, .unset, .unset] [] := by first | (simp [entryFrame, mkF, argsToLocals, Value.category]; done) | rfl
def K_rm_addM (aS : Addr) (aC : Addr) (aM : Addr) (n : Nat) (fs : Nat → Value) (fc : Nat → Value) (fm : Nat → Value) (gm : Nat → Int) (fv : Nat → Value) (wv : Nat → Int64) (B : Nat) (cc : Nat) (Z : State) (h0 : Heap) (n0 : Nat) (a1 : Addr) (aV : Addr) (p3 : Int32) (v : Option Value) (h : Heap) (L : List Loc) : Prop := v = none ∧ Fr n0 L ∧ Keep h0 h [aS, aC, aM] ∧ ∃ fs' fc' fm', own_Arr Z h aS .double n fs' ∧ own_DB fs' n (B + 2 ^ 31) ∧ own_Arr Z h aC .double n fc' ∧ own_DB fc' n 0 ∧ own_Arr Z h aM .double n fm' ∧ own_DA fm' n (own_addG gm wv cc)
set_option maxRecDepth 65536 in
set_option maxHeartbeats 40000000 in
theorem rm_addM (l : Launch) (Z : State) (a0 : Array Value) (hw : ∀ d ∈ tables_1, d.before a0 Z = true) (ws : List Jvm.Cond) (aS : Addr) (aC : Addr) (aM : Addr) (n : Nat) (fs : Nat → Value) (fc : Nat → Value) (fm : Nat → Value) (gm : Nat → Int) (fv : Nat → Value) (wv : Nat → Int64) (B : Nat) (cc : Nat) (a1 : Addr) (aV : Addr) (p3 : Int32) (h0 : Heap) (n0 : Nat) (Z0 : n0 ≤ h0.size) (I0 : Exa Z h0 a1 "com/example/ferrule/ferrule/matrix/CompensatedSums") (I1 : Fld Z h0 a1 "com/example/ferrule/ferrule/matrix/CompensatedSums" "sums" "[D" (.ref aS)) (I2 : Fld Z h0 a1 "com/example/ferrule/ferrule/matrix/CompensatedSums" "compensations" "[D" (.ref aC)) (I3 : Fld Z h0 a1 "com/example/ferrule/ferrule/matrix/CompensatedSums" "magnitudes" "[D" (.ref aM)) (I4 : own_Arr Z h0 aS .double n fs) (I5 : own_Arr Z h0 aC .double n fc) (I6 : own_Arr Z h0 aM .double n fm) (I7 : own_Arr Z h0 aV .double 4 fv) (ge_aS : n0 ≤ aS) (ge_aC : n0 ≤ aC) (ge_aM : n0 ≤ aM) (ne_a1_aS : a1 ≠ aS) (ne_a1_aC : a1 ≠ aC) (ne_a1_aM : a1 ≠ aM) (ne_a1_aV : a1 ≠ aV) (ne_aS_aC : aS ≠ aC) (ne_aS_aM : aS ≠ aM) (ne_aC_aM : aC ≠ aM) (ne_aV_aS : aV ≠ aS) (ne_aV_aC : aV ≠ aC) (ne_aV_aM : aV ≠ aM) (hS : own_DB fs n B) (hC : own_DB fc n 0) (hV : own_DV fv wv) (hB : B ≤ 2 ^ 40) (hcnt : own_cnt p3 cc) (hcn : cc ≤ n) (hD : own_DA fm n gm) (hg : own_gB gm (2 ^ 40)) :
    MetFree l (⟨"com/example/ferrule/ferrule/matrix/CompensatedSums", "add", "([DI)V"⟩ : MethodName) (head1 (Jvm.Cond.code (⟨"com/example/ferrule/ferrule/matrix/CompensatedSums", "add", "([DI)V"⟩ : MethodName) prog_64_method_4_code 13 none :: ws) ({ frames := 1, cells := 0, slots := 0, locals := 23 } : Room)) (fun a U => a = #[(.ref a1), (.ref aV), (.int p3)] ∧ Z.Warmed39 U.vm ∧ U.heap = h0) (fun _ _ _ _ _ => True) (fun _ U o U' => ∃ v L, o = .returned v ∧ (K_rm_addM aS aC aM n fs fc fm gm fv wv B cc Z h0 n0 a1 aV p3) v U'.heap L ∧ FrameEnd U o U' L ({ frames := 1, cells := 0, slots := 0, locals := 23 } : Room).cells ({ frames := 1, cells := 0, slots := 0, locals := 23 } : Room).slots) := by
  refine own_body (plainFor_of_name pn_com_example_ferrule_ferrule_matrix_CompensatedSums) ?_
  intro p e s m below meth c s₁ hx hby hml hown hnm hret hlk hZ X0 e0
  have hown : s.vm.findClass "com/example/ferrule/ferrule/matrix/CompensatedSums" = some m.cls := hown
  have N0 := Fr.nil n0
  rw [ef_rm_addM m a1 aV p3]
  have K0 := Keep.refl h0 [aS, aC, aM]
  refine own_aloadN X0 hx (pc' := 1) rfl (hb hby d_prog_64_method_4_code_0) rfl rfl ?_
  refine own_getF X0 hx hZ hown (host := "") (Or.inl (hw _ (List.mem_of_getElem? (i := 19) rfl))) Via.refl e0 I3 (pc' := 4) rfl (hb hby d_prog_64_method_4_code_1) ?_
  intro T1 X1 e1
  refine own_ifnonnullT X1 hx (pc' := 18) (hb hby d_prog_64_method_4_code_4) (by decide) (by decide) ?_
  refine own_aloadN X1 hx (pc' := 19) rfl (hb hby d_prog_64_method_4_code_18) rfl rfl ?_
  refine own_getF X1 hx hZ hown (host := "") (Or.inl (hw _ (List.mem_of_getElem? (i := 10) rfl))) Via.refl e1 I1 (pc' := 22) rfl (hb hby d_prog_64_method_4_code_19) ?_
  intro T2 X2 e2
  refine own_astoreN X2 hx (Ls' := #[.val (.ref a1), .val (.ref aV), .val (.int p3), .val (.ref aS), .unset, .unset, .unset, .unset, .unset, .unset, .unset, .unset, .unset]) (pc' := 23) rfl (hb hby d_prog_64_method_4_code_22) rfl rfl ?_
  refine own_aloadN X2 hx (pc' := 24) rfl (hb hby d_prog_64_method_4_code_23) rfl rfl ?_
  refine own_getF X2 hx hZ hown (host := "") (Or.inl (hw _ (List.mem_of_getElem? (i := 12) rfl))) Via.refl e2 I2 (pc' := 27) rfl (hb hby d_prog_64_method_4_code_24) ?_
  intro T3 X3 e3
  refine own_astore X3 hx (Ls' := #[.val (.ref a1), .val (.ref aV), .val (.int p3), .val (.ref aS), .val (.ref aC), .unset, .unset, .unset, .unset, .unset, .unset, .unset, .unset]) (pc' := 29) rfl (hb hby d_prog_64_method_4_code_27) rfl rfl ?_
  refine own_aloadN X3 hx (pc' := 30) rfl (hb hby d_prog_64_method_4_code_29) rfl rfl ?_
  refine own_getF X3 hx hZ hown (host := "") (Or.inl (hw _ (List.mem_of_getElem? (i := 19) rfl))) Via.refl e3 I3 (pc' := 33) rfl (hb hby d_prog_64_method_4_code_30) ?_
  intro T4 X4 e4
  refine own_astore X4 hx (Ls' := #[.val (.ref a1), .val (.ref aV), .val (.int p3), .val (.ref aS), .val (.ref aC), .val (.ref aM), .unset, .unset, .unset, .unset, .unset, .unset, .unset]) (pc' := 35) rfl (hb hby d_prog_64_method_4_code_33) rfl rfl ?_
  rcases hcnt with ⟨rfl, rfl⟩ | ⟨rfl, rfl⟩ | ⟨rfl, rfl⟩ | ⟨rfl, rfl⟩ | ⟨rfl, rfl⟩
  · refine own_iconst X4 hx (v := (0 : Int32)) (pc' := 36) rfl (hb hby d_prog_64_method_4_code_35) rfl ?_
    refine own_istore X4 hx (Ls' := #[.val (.ref a1), .val (.ref aV), .val (.int (0 : Int32)), .val (.ref aS), .val (.ref aC), .val (.ref aM), .val (.int (0 : Int32)), .unset, .unset, .unset, .unset, .unset, .unset]) (pc' := 38) rfl (hb hby d_prog_64_method_4_code_36) rfl ?_
    refine own_iload X4 hx (pc' := 40) rfl (hb hby d_prog_64_method_4_code_38) rfl ?_
    refine own_iloadN X4 hx (pc' := 41) rfl (hb hby d_prog_64_method_4_code_40) rfl ?_
    refine own_icmpT X4 hx (pc' := 105) (hb hby d_prog_64_method_4_code_41) (XT.ii_ge_t (by decide)) (by decide) (by decide) ?_
    refine own_ret X4 hx hlk hret (hb hby d_prog_64_method_4_code_105) (by decide) (by decide) ?_
    rw [e4]
    exact ⟨rfl, N0, K0, _, _, _, I4, (hS.mono (by omega)), I5, hC, I6, (own_DA.congr hD (by intro j; rcases j with _ | _ | _ | _ | j <;> first | (simp [own_updG, own_addG]; done) | (simp [own_updG, own_addG]; intro hh; omega)))⟩
  · obtain ⟨x0, u0, ex0, dx0, bx0⟩ := hS 0 (by omega)
    obtain ⟨y0, t0, ey0, dy0, bY0⟩ := hC 0 (by omega)
    obtain rfl : t0 = 0 := by omega
    obtain ⟨ev0, bv0⟩ := hV 0 (by decide)
    have vI0 := own_vI bv0
    have lb0 := own_labsI bv0
    have ss0 := own_addI dx0 vI0 (k := u0 + (wv 0).toInt) rfl (by omega)
    obtain ⟨z0, ez0, dz0⟩ := hD 0 (by omega)
    have gb0 := hg 0
    have mm0 := own_addI dz0 lb0.2.2 (k := gm 0 + (own_labs (wv 0)).toInt) rfl (by have := lb0.1; omega)
    refine own_iconst X4 hx (v := (0 : Int32)) (pc' := 36) rfl (hb hby d_prog_64_method_4_code_35) rfl ?_
    refine own_istore X4 hx (Ls' := #[.val (.ref a1), .val (.ref aV), .val (.int (1 : Int32)), .val (.ref aS), .val (.ref aC), .val (.ref aM), .val (.int (0 : Int32)), .unset, .unset, .unset, .unset, .unset, .unset]) (pc' := 38) rfl (hb hby d_prog_64_method_4_code_36) rfl ?_
    refine own_iload X4 hx (pc' := 40) rfl (hb hby d_prog_64_method_4_code_38) rfl ?_
    refine own_iloadN X4 hx (pc' := 41) rfl (hb hby d_prog_64_method_4_code_40) rfl ?_
    refine own_icmpF X4 hx (pc' := 44) rfl (hb hby d_prog_64_method_4_code_41) (XT.ii_ge_f (by decide)) ?_
    refine own_aloadN X4 hx (pc' := 45) rfl (hb hby d_prog_64_method_4_code_44) rfl rfl ?_
    refine own_iload X4 hx (pc' := 47) rfl (hb hby d_prog_64_method_4_code_45) rfl ?_
    refine own_ldD X4 hx hZ e4 I4 (k := 0) (by decide) (by decide) (by omega) (v := (.double x0)) ex0 (pc' := 48) rfl (hb hby d_prog_64_method_4_code_47) ?_
    refine own_dstore X4 hx (Ls' := #[.val (.ref a1), .val (.ref aV), .val (.int (1 : Int32)), .val (.ref aS), .val (.ref aC), .val (.ref aM), .val (.int (0 : Int32)), .val (.double x0), .second, .unset, .unset, .unset, .unset]) (pc' := 50) rfl (hb hby d_prog_64_method_4_code_48) rfl ?_
    refine own_aloadN X4 hx (pc' := 51) rfl (hb hby d_prog_64_method_4_code_50) rfl rfl ?_
    refine own_iload X4 hx (pc' := 53) rfl (hb hby d_prog_64_method_4_code_51) rfl ?_
    refine own_ldD X4 hx hZ e4 I7 (k := 0) (by decide) (by decide) (by decide) (v := (.double (FP.l2d (wv 0)))) ev0 (pc' := 54) rfl (hb hby d_prog_64_method_4_code_53) ?_
    refine own_dstore X4 hx (Ls' := #[.val (.ref a1), .val (.ref aV), .val (.int (1 : Int32)), .val (.ref aS), .val (.ref aC), .val (.ref aM), .val (.int (0 : Int32)), .val (.double x0), .second, .val (.double (FP.l2d (wv 0))), .second, .unset, .unset]) (pc' := 56) rfl (hb hby d_prog_64_method_4_code_54) rfl ?_
    refine own_dload X4 hx (pc' := 58) rfl (hb hby d_prog_64_method_4_code_56) rfl ?_
    refine own_dload X4 hx (pc' := 60) rfl (hb hby d_prog_64_method_4_code_58) rfl ?_
    refine own_dadd X4 hx (v := (FP.dadd x0 (FP.l2d (wv 0)))) (pc' := 61) rfl (hb hby d_prog_64_method_4_code_60) ss0.2 rfl ?_
    refine own_dstore X4 hx (Ls' := #[.val (.ref a1), .val (.ref aV), .val (.int (1 : Int32)), .val (.ref aS), .val (.ref aC), .val (.ref aM), .val (.int (0 : Int32)), .val (.double x0), .second, .val (.double (FP.l2d (wv 0))), .second, .val (.double (FP.dadd x0 (FP.l2d (wv 0)))), .second]) (pc' := 63) rfl (hb hby d_prog_64_method_4_code_61) rfl ?_
    refine own_aload X4 hx (pc' := 65) rfl (hb hby d_prog_64_method_4_code_63) rfl rfl ?_
    refine own_iload X4 hx (pc' := 67) rfl (hb hby d_prog_64_method_4_code_65) rfl ?_
    refine own_dup2 X4 hx (pc' := 68) rfl (hb hby d_prog_64_method_4_code_67) rfl rfl ?_
    refine own_ldD X4 hx hZ e4 I5 (k := 0) (by decide) (by decide) (by omega) (v := (.double y0)) ey0 (pc' := 69) rfl (hb hby d_prog_64_method_4_code_68) ?_
    refine own_dload X4 hx (pc' := 71) rfl (hb hby d_prog_64_method_4_code_69) rfl ?_
    refine own_dload X4 hx (pc' := 73) rfl (hb hby d_prog_64_method_4_code_71) rfl ?_
    refine own_dload X4 hx (pc' := 75) rfl (hb hby d_prog_64_method_4_code_73) rfl ?_
    refine own_callS X4 hx hZ (y := (⟨"com/example/ferrule/ferrule/matrix/CompensatedSum", "errorWithoutBranch", "(DDD)D"⟩ : MethodName)) hown (hw _ (List.mem_of_getElem? (i := 49) rfl)) (hw _ (List.mem_of_getElem? (i := 50) rfl)) (hw _ (List.mem_of_getElem? (i := 28) rfl)) (hw _ (List.mem_of_getElem? (i := 51) rfl))  (by decide) (rm_errW l Z a0 hw [] u0 (wv 0).toInt x0 (FP.l2d (wv 0)) (FP.dadd x0 (FP.l2d (wv 0))) h0 n0 Z0 dx0 vI0 ss0.1 ⟨by omega, by omega⟩) (by decide) (W := 4) (by decide) (by decide) (by decide) e4 (by rw [hml]; rfl) (argsL := [(.double x0), (.double (FP.l2d (wv 0))), (.double (FP.dadd x0 (FP.l2d (wv 0))))]) (rest := [(.double y0), (.int (0 : Int32)), (.ref aC)]) rfl (lenOf pd__DDD_D rfl) rfl (Nat.le_of_eq rfl) (pc' := 78) rfl (hb hby d_prog_64_method_4_code_75) ?_
    rintro _ T5 L5 X5 ⟨r5, rfl, hr5, N5, e5⟩
    have M5 := Fr.app N0 N5
    show own_Goes p e below T5 (mkF m 78 #[.val (.ref a1), .val (.ref aV), .val (.int (1 : Int32)), .val (.ref aS), .val (.ref aC), .val (.ref aM), .val (.int (0 : Int32)), .val (.double x0), .second, .val (.double (FP.l2d (wv 0))), .second, .val (.double (FP.dadd x0 (FP.l2d (wv 0)))), .second] [(.double r5), (.double y0), (.int (0 : Int32)), (.ref aC)]) _
    refine own_dadd X5 hx (v := (FP.dadd y0 r5)) (pc' := 79) rfl (hb hby d_prog_64_method_4_code_78) (own_addI dy0 hr5 (k := 0) (by omega) (by decide)).2 rfl ?_
    refine own_stD X5 hx hZ e5 I5 (k := 0) (by decide) (by decide) (by omega) (pc' := 80) rfl (hb hby d_prog_64_method_4_code_79) ?_
    intro T6 h6 X6 e6 W6 A6
    have Siz_7 := own_sizWr W6 Z0
    have Exa_8 := Exa.wr W6 I0
    have Fld_9 := Fld.other W6 I1 (Or.inl ne_a1_aC)
    have Fld_10 := Fld.other W6 I2 (Or.inl ne_a1_aC)
    have Fld_11 := Fld.other W6 I3 (Or.inl ne_a1_aC)
    have Arr_12 := own_Arr.other W6 I4 ne_aS_aC
    have Arr_14 := own_Arr.other W6 I6 (Ne.symm ne_aC_aM)
    have Arr_15 := own_Arr.other W6 I7 ne_aV_aC
    have N6 := Fr.snoc X6 M5 ge_aC
    have K6 := Keep.wr K0 W6 (Or.inl (by simp))
    refine own_aloadN X6 hx (pc' := 81) rfl (hb hby d_prog_64_method_4_code_80) rfl rfl ?_
    refine own_iload X6 hx (pc' := 83) rfl (hb hby d_prog_64_method_4_code_81) rfl ?_
    refine own_dload X6 hx (pc' := 85) rfl (hb hby d_prog_64_method_4_code_83) rfl ?_
    refine own_stD X6 hx hZ e6 Arr_12 (k := 0) (by decide) (by decide) (by omega) (pc' := 86) rfl (hb hby d_prog_64_method_4_code_85) ?_
    intro T16 h16 X16 e16 W16 A16
    have Siz_17 := own_sizWr W16 Siz_7
    have Exa_18 := Exa.wr W16 Exa_8
    have Fld_19 := Fld.other W16 Fld_9 (Or.inl ne_a1_aS)
    have Fld_20 := Fld.other W16 Fld_10 (Or.inl ne_a1_aS)
    have Fld_21 := Fld.other W16 Fld_11 (Or.inl ne_a1_aS)
    have Arr_23 := own_Arr.other W16 Arr_14 (Ne.symm ne_aS_aM)
    have Arr_24 := own_Arr.other W16 Arr_15 ne_aV_aS
    have Arr_25 := own_Arr.other W16 A6 (Ne.symm ne_aS_aC)
    have N16 := Fr.snoc X16 N6 ge_aS
    have K16 := Keep.wr K6 W16 (Or.inl (by simp))
    refine own_aload X16 hx (pc' := 88) rfl (hb hby d_prog_64_method_4_code_86) rfl rfl ?_
    refine own_iload X16 hx (pc' := 90) rfl (hb hby d_prog_64_method_4_code_88) rfl ?_
    refine own_dup2 X16 hx (pc' := 91) rfl (hb hby d_prog_64_method_4_code_90) rfl rfl ?_
    refine own_ldD X16 hx hZ e16 Arr_23 (k := 0) (by decide) (by decide) (by omega) (v := (.double z0)) ez0 (pc' := 92) rfl (hb hby d_prog_64_method_4_code_91) ?_
    refine own_dload X16 hx (pc' := 94) rfl (hb hby d_prog_64_method_4_code_92) rfl ?_
    refine own_absD X16 hx hZ hown (hw _ (List.mem_of_getElem? (i := 52) rfl)) (hw _ (List.mem_of_getElem? (i := 31) rfl)) (hw _ (List.mem_of_getElem? (i := 32) rfl)) (hw _ (List.mem_of_getElem? (i := 33) rfl)) e16 (v := (FP.l2d (own_labs (wv 0)))) (own_nnI vI0) lb0.2.1 (by rw [hml]; rfl) (by decide) (W := 4) (Nat.le_of_eq rfl) (by decide) (by decide) (by decide) (pc' := 97) rfl (hb hby d_prog_64_method_4_code_94) ?_
    intro T26 X26 e26
    refine own_dadd X26 hx (v := (FP.dadd z0 (FP.l2d (own_labs (wv 0))))) (pc' := 98) rfl (hb hby d_prog_64_method_4_code_97) mm0.2 rfl ?_
    refine own_stD X26 hx hZ e26 Arr_23 (k := 0) (by decide) (by decide) (by omega) (pc' := 99) rfl (hb hby d_prog_64_method_4_code_98) ?_
    intro T27 h27 X27 e27 W27 A27
    have Siz_28 := own_sizWr W27 Siz_17
    have Exa_29 := Exa.wr W27 Exa_18
    have Fld_30 := Fld.other W27 Fld_19 (Or.inl ne_a1_aM)
    have Fld_31 := Fld.other W27 Fld_20 (Or.inl ne_a1_aM)
    have Fld_32 := Fld.other W27 Fld_21 (Or.inl ne_a1_aM)
    have Arr_34 := own_Arr.other W27 Arr_24 ne_aV_aM
    have Arr_35 := own_Arr.other W27 Arr_25 ne_aC_aM
    have Arr_36 := own_Arr.other W27 A16 ne_aS_aM
    have N27 := Fr.snoc X27 N16 ge_aM
    have K27 := Keep.wr K16 W27 (Or.inl (by simp))
    refine own_iinc X27 hx (v := (1 : Int32)) (Ls' := #[.val (.ref a1), .val (.ref aV), .val (.int (1 : Int32)), .val (.ref aS), .val (.ref aC), .val (.ref aM), .val (.int (1 : Int32)), .val (.double x0), .second, .val (.double (FP.l2d (wv 0))), .second, .val (.double (FP.dadd x0 (FP.l2d (wv 0)))), .second]) (pc' := 102) rfl (hb hby d_prog_64_method_4_code_99) rfl (by decide) rfl ?_
    refine own_goto X27 hx (pc' := 38) (hb hby d_prog_64_method_4_code_102) (by decide) (by decide) ?_
    refine own_iload X27 hx (pc' := 40) rfl (hb hby d_prog_64_method_4_code_38) rfl ?_
    refine own_iloadN X27 hx (pc' := 41) rfl (hb hby d_prog_64_method_4_code_40) rfl ?_
    refine own_icmpT X27 hx (pc' := 105) (hb hby d_prog_64_method_4_code_41) (XT.ii_ge_t (by decide)) (by decide) (by decide) ?_
    refine own_ret X27 hx hlk hret (hb hby d_prog_64_method_4_code_105) (by decide) (by decide) ?_
    rw [e27]
    exact ⟨rfl, N27, K27, _, _, _, Arr_36, (own_DB.upd (hS.mono (by omega)) 0 ss0.1 (by omega)), Arr_35, (own_DB.upd hC 0 (own_addI dy0 hr5 (k := 0) (by omega) (by decide)).1 (by decide)), A27, (own_DA.congr (own_DA.upd hD 0 mm0.1) (by intro j; rcases j with _ | _ | _ | _ | j <;> first | (simp [own_updG, own_addG]; done) | (simp [own_updG, own_addG]; intro hh; omega)))⟩
  · obtain ⟨x0, u0, ex0, dx0, bx0⟩ := hS 0 (by omega)
    obtain ⟨y0, t0, ey0, dy0, bY0⟩ := hC 0 (by omega)
    obtain rfl : t0 = 0 := by omega
    obtain ⟨ev0, bv0⟩ := hV 0 (by decide)
    have vI0 := own_vI bv0
    have lb0 := own_labsI bv0
    have ss0 := own_addI dx0 vI0 (k := u0 + (wv 0).toInt) rfl (by omega)
    obtain ⟨z0, ez0, dz0⟩ := hD 0 (by omega)
    have gb0 := hg 0
    have mm0 := own_addI dz0 lb0.2.2 (k := gm 0 + (own_labs (wv 0)).toInt) rfl (by have := lb0.1; omega)
    obtain ⟨x1, u1, ex1, dx1, bx1⟩ := hS 1 (by omega)
    obtain ⟨y1, t1, ey1, dy1, bY1⟩ := hC 1 (by omega)
    obtain rfl : t1 = 0 := by omega
    obtain ⟨ev1, bv1⟩ := hV 1 (by decide)
    have vI1 := own_vI bv1
    have lb1 := own_labsI bv1
    have ss1 := own_addI dx1 vI1 (k := u1 + (wv 1).toInt) rfl (by omega)
    obtain ⟨z1, ez1, dz1⟩ := hD 1 (by omega)
    have gb1 := hg 1
    have mm1 := own_addI dz1 lb1.2.2 (k := gm 1 + (own_labs (wv 1)).toInt) rfl (by have := lb1.1; omega)
    refine own_iconst X4 hx (v := (0 : Int32)) (pc' := 36) rfl (hb hby d_prog_64_method_4_code_35) rfl ?_
    refine own_istore X4 hx (Ls' := #[.val (.ref a1), .val (.ref aV), .val (.int (2 : Int32)), .val (.ref aS), .val (.ref aC), .val (.ref aM), .val (.int (0 : Int32)), .unset, .unset, .unset, .unset, .unset, .unset]) (pc' := 38) rfl (hb hby d_prog_64_method_4_code_36) rfl ?_
    refine own_iload X4 hx (pc' := 40) rfl (hb hby d_prog_64_method_4_code_38) rfl ?_
    refine own_iloadN X4 hx (pc' := 41) rfl (hb hby d_prog_64_method_4_code_40) rfl ?_
    refine own_icmpF X4 hx (pc' := 44) rfl (hb hby d_prog_64_method_4_code_41) (XT.ii_ge_f (by decide)) ?_
    refine own_aloadN X4 hx (pc' := 45) rfl (hb hby d_prog_64_method_4_code_44) rfl rfl ?_
    refine own_iload X4 hx (pc' := 47) rfl (hb hby d_prog_64_method_4_code_45) rfl ?_
    refine own_ldD X4 hx hZ e4 I4 (k := 0) (by decide) (by decide) (by omega) (v := (.double x0)) ex0 (pc' := 48) rfl (hb hby d_prog_64_method_4_code_47) ?_
    refine own_dstore X4 hx (Ls' := #[.val (.ref a1), .val (.ref aV), .val (.int (2 : Int32)), .val (.ref aS), .val (.ref aC), .val (.ref aM), .val (.int (0 : Int32)), .val (.double x0), .second, .unset, .unset, .unset, .unset]) (pc' := 50) rfl (hb hby d_prog_64_method_4_code_48) rfl ?_
    refine own_aloadN X4 hx (pc' := 51) rfl (hb hby d_prog_64_method_4_code_50) rfl rfl ?_
    refine own_iload X4 hx (pc' := 53) rfl (hb hby d_prog_64_method_4_code_51) rfl ?_
    refine own_ldD X4 hx hZ e4 I7 (k := 0) (by decide) (by decide) (by decide) (v := (.double (FP.l2d (wv 0)))) ev0 (pc' := 54) rfl (hb hby d_prog_64_method_4_code_53) ?_
    refine own_dstore X4 hx (Ls' := #[.val (.ref a1), .val (.ref aV), .val (.int (2 : Int32)), .val (.ref aS), .val (.ref aC), .val (.ref aM), .val (.int (0 : Int32)), .val (.double x0), .second, .val (.double (FP.l2d (wv 0))), .second, .unset, .unset]) (pc' := 56) rfl (hb hby d_prog_64_method_4_code_54) rfl ?_
    refine own_dload X4 hx (pc' := 58) rfl (hb hby d_prog_64_method_4_code_56) rfl ?_
    refine own_dload X4 hx (pc' := 60) rfl (hb hby d_prog_64_method_4_code_58) rfl ?_
    refine own_dadd X4 hx (v := (FP.dadd x0 (FP.l2d (wv 0)))) (pc' := 61) rfl (hb hby d_prog_64_method_4_code_60) ss0.2 rfl ?_
    refine own_dstore X4 hx (Ls' := #[.val (.ref a1), .val (.ref aV), .val (.int (2 : Int32)), .val (.ref aS), .val (.ref aC), .val (.ref aM), .val (.int (0 : Int32)), .val (.double x0), .second, .val (.double (FP.l2d (wv 0))), .second, .val (.double (FP.dadd x0 (FP.l2d (wv 0)))), .second]) (pc' := 63) rfl (hb hby d_prog_64_method_4_code_61) rfl ?_
    refine own_aload X4 hx (pc' := 65) rfl (hb hby d_prog_64_method_4_code_63) rfl rfl ?_
    refine own_iload X4 hx (pc' := 67) rfl (hb hby d_prog_64_method_4_code_65) rfl ?_
    refine own_dup2 X4 hx (pc' := 68) rfl (hb hby d_prog_64_method_4_code_67) rfl rfl ?_
    refine own_ldD X4 hx hZ e4 I5 (k := 0) (by decide) (by decide) (by omega) (v := (.double y0)) ey0 (pc' := 69) rfl (hb hby d_prog_64_method_4_code_68) ?_
    refine own_dload X4 hx (pc' := 71) rfl (hb hby d_prog_64_method_4_code_69) rfl ?_
    refine own_dload X4 hx (pc' := 73) rfl (hb hby d_prog_64_method_4_code_71) rfl ?_
    refine own_dload X4 hx (pc' := 75) rfl (hb hby d_prog_64_method_4_code_73) rfl ?_
    refine own_callS X4 hx hZ (y := (⟨"com/example/ferrule/ferrule/matrix/CompensatedSum", "errorWithoutBranch", "(DDD)D"⟩ : MethodName)) hown (hw _ (List.mem_of_getElem? (i := 49) rfl)) (hw _ (List.mem_of_getElem? (i := 50) rfl)) (hw _ (List.mem_of_getElem? (i := 28) rfl)) (hw _ (List.mem_of_getElem? (i := 51) rfl))  (by decide) (rm_errW l Z a0 hw [] u0 (wv 0).toInt x0 (FP.l2d (wv 0)) (FP.dadd x0 (FP.l2d (wv 0))) h0 n0 Z0 dx0 vI0 ss0.1 ⟨by omega, by omega⟩) (by decide) (W := 4) (by decide) (by decide) (by decide) e4 (by rw [hml]; rfl) (argsL := [(.double x0), (.double (FP.l2d (wv 0))), (.double (FP.dadd x0 (FP.l2d (wv 0))))]) (rest := [(.double y0), (.int (0 : Int32)), (.ref aC)]) rfl (lenOf pd__DDD_D rfl) rfl (Nat.le_of_eq rfl) (pc' := 78) rfl (hb hby d_prog_64_method_4_code_75) ?_
    rintro _ T37 L37 X37 ⟨r37, rfl, hr37, N37, e37⟩
    have M37 := Fr.app N0 N37
    show own_Goes p e below T37 (mkF m 78 #[.val (.ref a1), .val (.ref aV), .val (.int (2 : Int32)), .val (.ref aS), .val (.ref aC), .val (.ref aM), .val (.int (0 : Int32)), .val (.double x0), .second, .val (.double (FP.l2d (wv 0))), .second, .val (.double (FP.dadd x0 (FP.l2d (wv 0)))), .second] [(.double r37), (.double y0), (.int (0 : Int32)), (.ref aC)]) _
    refine own_dadd X37 hx (v := (FP.dadd y0 r37)) (pc' := 79) rfl (hb hby d_prog_64_method_4_code_78) (own_addI dy0 hr37 (k := 0) (by omega) (by decide)).2 rfl ?_
    refine own_stD X37 hx hZ e37 I5 (k := 0) (by decide) (by decide) (by omega) (pc' := 80) rfl (hb hby d_prog_64_method_4_code_79) ?_
    intro T38 h38 X38 e38 W38 A38
    have Siz_39 := own_sizWr W38 Z0
    have Exa_40 := Exa.wr W38 I0
    have Fld_41 := Fld.other W38 I1 (Or.inl ne_a1_aC)
    have Fld_42 := Fld.other W38 I2 (Or.inl ne_a1_aC)
    have Fld_43 := Fld.other W38 I3 (Or.inl ne_a1_aC)
    have Arr_44 := own_Arr.other W38 I4 ne_aS_aC
    have Arr_46 := own_Arr.other W38 I6 (Ne.symm ne_aC_aM)
    have Arr_47 := own_Arr.other W38 I7 ne_aV_aC
    have N38 := Fr.snoc X38 M37 ge_aC
    have K38 := Keep.wr K0 W38 (Or.inl (by simp))
    refine own_aloadN X38 hx (pc' := 81) rfl (hb hby d_prog_64_method_4_code_80) rfl rfl ?_
    refine own_iload X38 hx (pc' := 83) rfl (hb hby d_prog_64_method_4_code_81) rfl ?_
    refine own_dload X38 hx (pc' := 85) rfl (hb hby d_prog_64_method_4_code_83) rfl ?_
    refine own_stD X38 hx hZ e38 Arr_44 (k := 0) (by decide) (by decide) (by omega) (pc' := 86) rfl (hb hby d_prog_64_method_4_code_85) ?_
    intro T48 h48 X48 e48 W48 A48
    have Siz_49 := own_sizWr W48 Siz_39
    have Exa_50 := Exa.wr W48 Exa_40
    have Fld_51 := Fld.other W48 Fld_41 (Or.inl ne_a1_aS)
    have Fld_52 := Fld.other W48 Fld_42 (Or.inl ne_a1_aS)
    have Fld_53 := Fld.other W48 Fld_43 (Or.inl ne_a1_aS)
    have Arr_55 := own_Arr.other W48 Arr_46 (Ne.symm ne_aS_aM)
    have Arr_56 := own_Arr.other W48 Arr_47 ne_aV_aS
    have Arr_57 := own_Arr.other W48 A38 (Ne.symm ne_aS_aC)
    have N48 := Fr.snoc X48 N38 ge_aS
    have K48 := Keep.wr K38 W48 (Or.inl (by simp))
    refine own_aload X48 hx (pc' := 88) rfl (hb hby d_prog_64_method_4_code_86) rfl rfl ?_
    refine own_iload X48 hx (pc' := 90) rfl (hb hby d_prog_64_method_4_code_88) rfl ?_
    refine own_dup2 X48 hx (pc' := 91) rfl (hb hby d_prog_64_method_4_code_90) rfl rfl ?_
    refine own_ldD X48 hx hZ e48 Arr_55 (k := 0) (by decide) (by decide) (by omega) (v := (.double z0)) ez0 (pc' := 92) rfl (hb hby d_prog_64_method_4_code_91) ?_
    refine own_dload X48 hx (pc' := 94) rfl (hb hby d_prog_64_method_4_code_92) rfl ?_
    refine own_absD X48 hx hZ hown (hw _ (List.mem_of_getElem? (i := 52) rfl)) (hw _ (List.mem_of_getElem? (i := 31) rfl)) (hw _ (List.mem_of_getElem? (i := 32) rfl)) (hw _ (List.mem_of_getElem? (i := 33) rfl)) e48 (v := (FP.l2d (own_labs (wv 0)))) (own_nnI vI0) lb0.2.1 (by rw [hml]; rfl) (by decide) (W := 4) (Nat.le_of_eq rfl) (by decide) (by decide) (by decide) (pc' := 97) rfl (hb hby d_prog_64_method_4_code_94) ?_
    intro T58 X58 e58
    refine own_dadd X58 hx (v := (FP.dadd z0 (FP.l2d (own_labs (wv 0))))) (pc' := 98) rfl (hb hby d_prog_64_method_4_code_97) mm0.2 rfl ?_
    refine own_stD X58 hx hZ e58 Arr_55 (k := 0) (by decide) (by decide) (by omega) (pc' := 99) rfl (hb hby d_prog_64_method_4_code_98) ?_
    intro T59 h59 X59 e59 W59 A59
    have Siz_60 := own_sizWr W59 Siz_49
    have Exa_61 := Exa.wr W59 Exa_50
    have Fld_62 := Fld.other W59 Fld_51 (Or.inl ne_a1_aM)
    have Fld_63 := Fld.other W59 Fld_52 (Or.inl ne_a1_aM)
    have Fld_64 := Fld.other W59 Fld_53 (Or.inl ne_a1_aM)
    have Arr_66 := own_Arr.other W59 Arr_56 ne_aV_aM
    have Arr_67 := own_Arr.other W59 Arr_57 ne_aC_aM
    have Arr_68 := own_Arr.other W59 A48 ne_aS_aM
    have N59 := Fr.snoc X59 N48 ge_aM
    have K59 := Keep.wr K48 W59 (Or.inl (by simp))
    refine own_iinc X59 hx (v := (1 : Int32)) (Ls' := #[.val (.ref a1), .val (.ref aV), .val (.int (2 : Int32)), .val (.ref aS), .val (.ref aC), .val (.ref aM), .val (.int (1 : Int32)), .val (.double x0), .second, .val (.double (FP.l2d (wv 0))), .second, .val (.double (FP.dadd x0 (FP.l2d (wv 0)))), .second]) (pc' := 102) rfl (hb hby d_prog_64_method_4_code_99) rfl (by decide) rfl ?_
    refine own_goto X59 hx (pc' := 38) (hb hby d_prog_64_method_4_code_102) (by decide) (by decide) ?_
    refine own_iload X59 hx (pc' := 40) rfl (hb hby d_prog_64_method_4_code_38) rfl ?_
    refine own_iloadN X59 hx (pc' := 41) rfl (hb hby d_prog_64_method_4_code_40) rfl ?_
    refine own_icmpF X59 hx (pc' := 44) rfl (hb hby d_prog_64_method_4_code_41) (XT.ii_ge_f (by decide)) ?_
    refine own_aloadN X59 hx (pc' := 45) rfl (hb hby d_prog_64_method_4_code_44) rfl rfl ?_
    refine own_iload X59 hx (pc' := 47) rfl (hb hby d_prog_64_method_4_code_45) rfl ?_
    refine own_ldD X59 hx hZ e59 Arr_68 (k := 1) (by decide) (by decide) (by omega) (v := (.double x1)) ex1 (pc' := 48) rfl (hb hby d_prog_64_method_4_code_47) ?_
    refine own_dstore X59 hx (Ls' := #[.val (.ref a1), .val (.ref aV), .val (.int (2 : Int32)), .val (.ref aS), .val (.ref aC), .val (.ref aM), .val (.int (1 : Int32)), .val (.double x1), .second, .val (.double (FP.l2d (wv 0))), .second, .val (.double (FP.dadd x0 (FP.l2d (wv 0)))), .second]) (pc' := 50) rfl (hb hby d_prog_64_method_4_code_48) rfl ?_
    refine own_aloadN X59 hx (pc' := 51) rfl (hb hby d_prog_64_method_4_code_50) rfl rfl ?_
    refine own_iload X59 hx (pc' := 53) rfl (hb hby d_prog_64_method_4_code_51) rfl ?_
    refine own_ldD X59 hx hZ e59 Arr_66 (k := 1) (by decide) (by decide) (by decide) (v := (.double (FP.l2d (wv 1)))) ev1 (pc' := 54) rfl (hb hby d_prog_64_method_4_code_53) ?_
    refine own_dstore X59 hx (Ls' := #[.val (.ref a1), .val (.ref aV), .val (.int (2 : Int32)), .val (.ref aS), .val (.ref aC), .val (.ref aM), .val (.int (1 : Int32)), .val (.double x1), .second, .val (.double (FP.l2d (wv 1))), .second, .val (.double (FP.dadd x0 (FP.l2d (wv 0)))), .second]) (pc' := 56) rfl (hb hby d_prog_64_method_4_code_54) rfl ?_
    refine own_dload X59 hx (pc' := 58) rfl (hb hby d_prog_64_method_4_code_56) rfl ?_
    refine own_dload X59 hx (pc' := 60) rfl (hb hby d_prog_64_method_4_code_58) rfl ?_
    refine own_dadd X59 hx (v := (FP.dadd x1 (FP.l2d (wv 1)))) (pc' := 61) rfl (hb hby d_prog_64_method_4_code_60) ss1.2 rfl ?_
    refine own_dstore X59 hx (Ls' := #[.val (.ref a1), .val (.ref aV), .val (.int (2 : Int32)), .val (.ref aS), .val (.ref aC), .val (.ref aM), .val (.int (1 : Int32)), .val (.double x1), .second, .val (.double (FP.l2d (wv 1))), .second, .val (.double (FP.dadd x1 (FP.l2d (wv 1)))), .second]) (pc' := 63) rfl (hb hby d_prog_64_method_4_code_61) rfl ?_
    refine own_aload X59 hx (pc' := 65) rfl (hb hby d_prog_64_method_4_code_63) rfl rfl ?_
    refine own_iload X59 hx (pc' := 67) rfl (hb hby d_prog_64_method_4_code_65) rfl ?_
    refine own_dup2 X59 hx (pc' := 68) rfl (hb hby d_prog_64_method_4_code_67) rfl rfl ?_
    refine own_ldD X59 hx hZ e59 Arr_67 (k := 1) (by decide) (by decide) (by omega) (v := (.double y1)) ey1 (pc' := 69) rfl (hb hby d_prog_64_method_4_code_68) ?_
    refine own_dload X59 hx (pc' := 71) rfl (hb hby d_prog_64_method_4_code_69) rfl ?_
    refine own_dload X59 hx (pc' := 73) rfl (hb hby d_prog_64_method_4_code_71) rfl ?_
    refine own_dload X59 hx (pc' := 75) rfl (hb hby d_prog_64_method_4_code_73) rfl ?_
    refine own_callS X59 hx hZ (y := (⟨"com/example/ferrule/ferrule/matrix/CompensatedSum", "errorWithoutBranch", "(DDD)D"⟩ : MethodName)) hown (hw _ (List.mem_of_getElem? (i := 49) rfl)) (hw _ (List.mem_of_getElem? (i := 50) rfl)) (hw _ (List.mem_of_getElem? (i := 28) rfl)) (hw _ (List.mem_of_getElem? (i := 51) rfl))  (by decide) (rm_errW l Z a0 hw [] u1 (wv 1).toInt x1 (FP.l2d (wv 1)) (FP.dadd x1 (FP.l2d (wv 1))) h59 n0 Siz_60 dx1 vI1 ss1.1 ⟨by omega, by omega⟩) (by decide) (W := 4) (by decide) (by decide) (by decide) e59 (by rw [hml]; rfl) (argsL := [(.double x1), (.double (FP.l2d (wv 1))), (.double (FP.dadd x1 (FP.l2d (wv 1))))]) (rest := [(.double y1), (.int (1 : Int32)), (.ref aC)]) rfl (lenOf pd__DDD_D rfl) rfl (Nat.le_of_eq rfl) (pc' := 78) rfl (hb hby d_prog_64_method_4_code_75) ?_
    rintro _ T69 L69 X69 ⟨r69, rfl, hr69, N69, e69⟩
    have M69 := Fr.app N59 N69
    show own_Goes p e below T69 (mkF m 78 #[.val (.ref a1), .val (.ref aV), .val (.int (2 : Int32)), .val (.ref aS), .val (.ref aC), .val (.ref aM), .val (.int (1 : Int32)), .val (.double x1), .second, .val (.double (FP.l2d (wv 1))), .second, .val (.double (FP.dadd x1 (FP.l2d (wv 1)))), .second] [(.double r69), (.double y1), (.int (1 : Int32)), (.ref aC)]) _
    refine own_dadd X69 hx (v := (FP.dadd y1 r69)) (pc' := 79) rfl (hb hby d_prog_64_method_4_code_78) (own_addI dy1 hr69 (k := 0) (by omega) (by decide)).2 rfl ?_
    refine own_stD X69 hx hZ e69 Arr_67 (k := 1) (by decide) (by decide) (by omega) (pc' := 80) rfl (hb hby d_prog_64_method_4_code_79) ?_
    intro T70 h70 X70 e70 W70 A70
    have Siz_71 := own_sizWr W70 Siz_60
    have Exa_72 := Exa.wr W70 Exa_61
    have Fld_73 := Fld.other W70 Fld_62 (Or.inl ne_a1_aC)
    have Fld_74 := Fld.other W70 Fld_63 (Or.inl ne_a1_aC)
    have Fld_75 := Fld.other W70 Fld_64 (Or.inl ne_a1_aC)
    have Arr_76 := own_Arr.other W70 Arr_66 ne_aV_aC
    have Arr_78 := own_Arr.other W70 Arr_68 ne_aS_aC
    have Arr_79 := own_Arr.other W70 A59 (Ne.symm ne_aC_aM)
    have N70 := Fr.snoc X70 M69 ge_aC
    have K70 := Keep.wr K59 W70 (Or.inl (by simp))
    refine own_aloadN X70 hx (pc' := 81) rfl (hb hby d_prog_64_method_4_code_80) rfl rfl ?_
    refine own_iload X70 hx (pc' := 83) rfl (hb hby d_prog_64_method_4_code_81) rfl ?_
    refine own_dload X70 hx (pc' := 85) rfl (hb hby d_prog_64_method_4_code_83) rfl ?_
    refine own_stD X70 hx hZ e70 Arr_78 (k := 1) (by decide) (by decide) (by omega) (pc' := 86) rfl (hb hby d_prog_64_method_4_code_85) ?_
    intro T80 h80 X80 e80 W80 A80
    have Siz_81 := own_sizWr W80 Siz_71
    have Exa_82 := Exa.wr W80 Exa_72
    have Fld_83 := Fld.other W80 Fld_73 (Or.inl ne_a1_aS)
    have Fld_84 := Fld.other W80 Fld_74 (Or.inl ne_a1_aS)
    have Fld_85 := Fld.other W80 Fld_75 (Or.inl ne_a1_aS)
    have Arr_86 := own_Arr.other W80 Arr_76 ne_aV_aS
    have Arr_88 := own_Arr.other W80 Arr_79 (Ne.symm ne_aS_aM)
    have Arr_89 := own_Arr.other W80 A70 (Ne.symm ne_aS_aC)
    have N80 := Fr.snoc X80 N70 ge_aS
    have K80 := Keep.wr K70 W80 (Or.inl (by simp))
    refine own_aload X80 hx (pc' := 88) rfl (hb hby d_prog_64_method_4_code_86) rfl rfl ?_
    refine own_iload X80 hx (pc' := 90) rfl (hb hby d_prog_64_method_4_code_88) rfl ?_
    refine own_dup2 X80 hx (pc' := 91) rfl (hb hby d_prog_64_method_4_code_90) rfl rfl ?_
    refine own_ldD X80 hx hZ e80 Arr_88 (k := 1) (by decide) (by decide) (by omega) (v := (.double z1)) ez1 (pc' := 92) rfl (hb hby d_prog_64_method_4_code_91) ?_
    refine own_dload X80 hx (pc' := 94) rfl (hb hby d_prog_64_method_4_code_92) rfl ?_
    refine own_absD X80 hx hZ hown (hw _ (List.mem_of_getElem? (i := 52) rfl)) (hw _ (List.mem_of_getElem? (i := 31) rfl)) (hw _ (List.mem_of_getElem? (i := 32) rfl)) (hw _ (List.mem_of_getElem? (i := 33) rfl)) e80 (v := (FP.l2d (own_labs (wv 1)))) (own_nnI vI1) lb1.2.1 (by rw [hml]; rfl) (by decide) (W := 4) (Nat.le_of_eq rfl) (by decide) (by decide) (by decide) (pc' := 97) rfl (hb hby d_prog_64_method_4_code_94) ?_
    intro T90 X90 e90
    refine own_dadd X90 hx (v := (FP.dadd z1 (FP.l2d (own_labs (wv 1))))) (pc' := 98) rfl (hb hby d_prog_64_method_4_code_97) mm1.2 rfl ?_
    refine own_stD X90 hx hZ e90 Arr_88 (k := 1) (by decide) (by decide) (by omega) (pc' := 99) rfl (hb hby d_prog_64_method_4_code_98) ?_
    intro T91 h91 X91 e91 W91 A91
    have Siz_92 := own_sizWr W91 Siz_81
    have Exa_93 := Exa.wr W91 Exa_82
    have Fld_94 := Fld.other W91 Fld_83 (Or.inl ne_a1_aM)
    have Fld_95 := Fld.other W91 Fld_84 (Or.inl ne_a1_aM)
    have Fld_96 := Fld.other W91 Fld_85 (Or.inl ne_a1_aM)
    have Arr_97 := own_Arr.other W91 Arr_86 ne_aV_aM
    have Arr_99 := own_Arr.other W91 Arr_89 ne_aC_aM
    have Arr_100 := own_Arr.other W91 A80 ne_aS_aM
    have N91 := Fr.snoc X91 N80 ge_aM
    have K91 := Keep.wr K80 W91 (Or.inl (by simp))
    refine own_iinc X91 hx (v := (2 : Int32)) (Ls' := #[.val (.ref a1), .val (.ref aV), .val (.int (2 : Int32)), .val (.ref aS), .val (.ref aC), .val (.ref aM), .val (.int (2 : Int32)), .val (.double x1), .second, .val (.double (FP.l2d (wv 1))), .second, .val (.double (FP.dadd x1 (FP.l2d (wv 1)))), .second]) (pc' := 102) rfl (hb hby d_prog_64_method_4_code_99) rfl (by decide) rfl ?_
    refine own_goto X91 hx (pc' := 38) (hb hby d_prog_64_method_4_code_102) (by decide) (by decide) ?_
    refine own_iload X91 hx (pc' := 40) rfl (hb hby d_prog_64_method_4_code_38) rfl ?_
    refine own_iloadN X91 hx (pc' := 41) rfl (hb hby d_prog_64_method_4_code_40) rfl ?_
    refine own_icmpT X91 hx (pc' := 105) (hb hby d_prog_64_method_4_code_41) (XT.ii_ge_t (by decide)) (by decide) (by decide) ?_
    refine own_ret X91 hx hlk hret (hb hby d_prog_64_method_4_code_105) (by decide) (by decide) ?_
    rw [e91]
    exact ⟨rfl, N91, K91, _, _, _, Arr_100, (own_DB.upd (own_DB.upd (hS.mono (by omega)) 0 ss0.1 (by omega)) 1 ss1.1 (by omega)), Arr_99, (own_DB.upd (own_DB.upd hC 0 (own_addI dy0 hr37 (k := 0) (by omega) (by decide)).1 (by decide)) 1 (own_addI dy1 hr69 (k := 0) (by omega) (by decide)).1 (by decide)), A91, (own_DA.congr (own_DA.upd (own_DA.upd hD 0 mm0.1) 1 mm1.1) (by intro j; rcases j with _ | _ | _ | _ | j <;> first | (simp [own_updG, own_addG]; done) | (simp [own_updG, own_addG]; intro hh; omega)))⟩
  · obtain ⟨x0, u0, ex0, dx0, bx0⟩ := hS 0 (by omega)
    obtain ⟨y0, t0, ey0, dy0, bY0⟩ := hC 0 (by omega)
    obtain rfl : t0 = 0 := by omega
    obtain ⟨ev0, bv0⟩ := hV 0 (by decide)
    have vI0 := own_vI bv0
    have lb0 := own_labsI bv0
    have ss0 := own_addI dx0 vI0 (k := u0 + (wv 0).toInt) rfl (by omega)
    obtain ⟨z0, ez0, dz0⟩ := hD 0 (by omega)
    have gb0 := hg 0
    have mm0 := own_addI dz0 lb0.2.2 (k := gm 0 + (own_labs (wv 0)).toInt) rfl (by have := lb0.1; omega)
    obtain ⟨x1, u1, ex1, dx1, bx1⟩ := hS 1 (by omega)
    obtain ⟨y1, t1, ey1, dy1, bY1⟩ := hC 1 (by omega)
    obtain rfl : t1 = 0 := by omega
    obtain ⟨ev1, bv1⟩ := hV 1 (by decide)
    have vI1 := own_vI bv1
    have lb1 := own_labsI bv1
    have ss1 := own_addI dx1 vI1 (k := u1 + (wv 1).toInt) rfl (by omega)
    obtain ⟨z1, ez1, dz1⟩ := hD 1 (by omega)
    have gb1 := hg 1
    have mm1 := own_addI dz1 lb1.2.2 (k := gm 1 + (own_labs (wv 1)).toInt) rfl (by have := lb1.1; omega)
    obtain ⟨x2, u2, ex2, dx2, bx2⟩ := hS 2 (by omega)
    obtain ⟨y2, t2, ey2, dy2, bY2⟩ := hC 2 (by omega)
    obtain rfl : t2 = 0 := by omega
    obtain ⟨ev2, bv2⟩ := hV 2 (by decide)
    have vI2 := own_vI bv2
    have lb2 := own_labsI bv2
    have ss2 := own_addI dx2 vI2 (k := u2 + (wv 2).toInt) rfl (by omega)
    obtain ⟨z2, ez2, dz2⟩ := hD 2 (by omega)
    have gb2 := hg 2
    have mm2 := own_addI dz2 lb2.2.2 (k := gm 2 + (own_labs (wv 2)).toInt) rfl (by have := lb2.1; omega)
    refine own_iconst X4 hx (v := (0 : Int32)) (pc' := 36) rfl (hb hby d_prog_64_method_4_code_35) rfl ?_
    refine own_istore X4 hx (Ls' := #[.val (.ref a1), .val (.ref aV), .val (.int (3 : Int32)), .val (.ref aS), .val (.ref aC), .val (.ref aM), .val (.int (0 : Int32)), .unset, .unset, .unset, .unset, .unset, .unset]) (pc' := 38) rfl (hb hby d_prog_64_method_4_code_36) rfl ?_
    refine own_iload X4 hx (pc' := 40) rfl (hb hby d_prog_64_method_4_code_38) rfl ?_
    refine own_iloadN X4 hx (pc' := 41) rfl (hb hby d_prog_64_method_4_code_40) rfl ?_
    refine own_icmpF X4 hx (pc' := 44) rfl (hb hby d_prog_64_method_4_code_41) (XT.ii_ge_f (by decide)) ?_
    refine own_aloadN X4 hx (pc' := 45) rfl (hb hby d_prog_64_method_4_code_44) rfl rfl ?_
    refine own_iload X4 hx (pc' := 47) rfl (hb hby d_prog_64_method_4_code_45) rfl ?_
    refine own_ldD X4 hx hZ e4 I4 (k := 0) (by decide) (by decide) (by omega) (v := (.double x0)) ex0 (pc' := 48) rfl (hb hby d_prog_64_method_4_code_47) ?_
    refine own_dstore X4 hx (Ls' := #[.val (.ref a1), .val (.ref aV), .val (.int (3 : Int32)), .val (.ref aS), .val (.ref aC), .val (.ref aM), .val (.int (0 : Int32)), .val (.double x0), .second, .unset, .unset, .unset, .unset]) (pc' := 50) rfl (hb hby d_prog_64_method_4_code_48) rfl ?_
    refine own_aloadN X4 hx (pc' := 51) rfl (hb hby d_prog_64_method_4_code_50) rfl rfl ?_
    refine own_iload X4 hx (pc' := 53) rfl (hb hby d_prog_64_method_4_code_51) rfl ?_
    refine own_ldD X4 hx hZ e4 I7 (k := 0) (by decide) (by decide) (by decide) (v := (.double (FP.l2d (wv 0)))) ev0 (pc' := 54) rfl (hb hby d_prog_64_method_4_code_53) ?_
    refine own_dstore X4 hx (Ls' := #[.val (.ref a1), .val (.ref aV), .val (.int (3 : Int32)), .val (.ref aS), .val (.ref aC), .val (.ref aM), .val (.int (0 : Int32)), .val (.double x0), .second, .val (.double (FP.l2d (wv 0))), .second, .unset, .unset]) (pc' := 56) rfl (hb hby d_prog_64_method_4_code_54) rfl ?_
    refine own_dload X4 hx (pc' := 58) rfl (hb hby d_prog_64_method_4_code_56) rfl ?_
    refine own_dload X4 hx (pc' := 60) rfl (hb hby d_prog_64_method_4_code_58) rfl ?_
    refine own_dadd X4 hx (v := (FP.dadd x0 (FP.l2d (wv 0)))) (pc' := 61) rfl (hb hby d_prog_64_method_4_code_60) ss0.2 rfl ?_
    refine own_dstore X4 hx (Ls' := #[.val (.ref a1), .val (.ref aV), .val (.int (3 : Int32)), .val (.ref aS), .val (.ref aC), .val (.ref aM), .val (.int (0 : Int32)), .val (.double x0), .second, .val (.double (FP.l2d (wv 0))), .second, .val (.double (FP.dadd x0 (FP.l2d (wv 0)))), .second]) (pc' := 63) rfl (hb hby d_prog_64_method_4_code_61) rfl ?_
    refine own_aload X4 hx (pc' := 65) rfl (hb hby d_prog_64_method_4_code_63) rfl rfl ?_
    refine own_iload X4 hx (pc' := 67) rfl (hb hby d_prog_64_method_4_code_65) rfl ?_
    refine own_dup2 X4 hx (pc' := 68) rfl (hb hby d_prog_64_method_4_code_67) rfl rfl ?_
    refine own_ldD X4 hx hZ e4 I5 (k := 0) (by decide) (by decide) (by omega) (v := (.double y0)) ey0 (pc' := 69) rfl (hb hby d_prog_64_method_4_code_68) ?_
    refine own_dload X4 hx (pc' := 71) rfl (hb hby d_prog_64_method_4_code_69) rfl ?_
    refine own_dload X4 hx (pc' := 73) rfl (hb hby d_prog_64_method_4_code_71) rfl ?_
    refine own_dload X4 hx (pc' := 75) rfl (hb hby d_prog_64_method_4_code_73) rfl ?_
    refine own_callS X4 hx hZ (y := (⟨"com/example/ferrule/ferrule/matrix/CompensatedSum", "errorWithoutBranch", "(DDD)D"⟩ : MethodName)) hown (hw _ (List.mem_of_getElem? (i := 49) rfl)) (hw _ (List.mem_of_getElem? (i := 50) rfl)) (hw _ (List.mem_of_getElem? (i := 28) rfl)) (hw _ (List.mem_of_getElem? (i := 51) rfl))  (by decide) (rm_errW l Z a0 hw [] u0 (wv 0).toInt x0 (FP.l2d (wv 0)) (FP.dadd x0 (FP.l2d (wv 0))) h0 n0 Z0 dx0 vI0 ss0.1 ⟨by omega, by omega⟩) (by decide) (W := 4) (by decide) (by decide) (by decide) e4 (by rw [hml]; rfl) (argsL := [(.double x0), (.double (FP.l2d (wv 0))), (.double (FP.dadd x0 (FP.l2d (wv 0))))]) (rest := [(.double y0), (.int (0 : Int32)), (.ref aC)]) rfl (lenOf pd__DDD_D rfl) rfl (Nat.le_of_eq rfl) (pc' := 78) rfl (hb hby d_prog_64_method_4_code_75) ?_
    rintro _ T101 L101 X101 ⟨r101, rfl, hr101, N101, e101⟩
    have M101 := Fr.app N0 N101
    show own_Goes p e below T101 (mkF m 78 #[.val (.ref a1), .val (.ref aV), .val (.int (3 : Int32)), .val (.ref aS), .val (.ref aC), .val (.ref aM), .val (.int (0 : Int32)), .val (.double x0), .second, .val (.double (FP.l2d (wv 0))), .second, .val (.double (FP.dadd x0 (FP.l2d (wv 0)))), .second] [(.double r101), (.double y0), (.int (0 : Int32)), (.ref aC)]) _
    refine own_dadd X101 hx (v := (FP.dadd y0 r101)) (pc' := 79) rfl (hb hby d_prog_64_method_4_code_78) (own_addI dy0 hr101 (k := 0) (by omega) (by decide)).2 rfl ?_
    refine own_stD X101 hx hZ e101 I5 (k := 0) (by decide) (by decide) (by omega) (pc' := 80) rfl (hb hby d_prog_64_method_4_code_79) ?_
    intro T102 h102 X102 e102 W102 A102
    have Siz_103 := own_sizWr W102 Z0
    have Exa_104 := Exa.wr W102 I0
    have Fld_105 := Fld.other W102 I1 (Or.inl ne_a1_aC)
    have Fld_106 := Fld.other W102 I2 (Or.inl ne_a1_aC)
    have Fld_107 := Fld.other W102 I3 (Or.inl ne_a1_aC)
    have Arr_108 := own_Arr.other W102 I4 ne_aS_aC
    have Arr_110 := own_Arr.other W102 I6 (Ne.symm ne_aC_aM)
    have Arr_111 := own_Arr.other W102 I7 ne_aV_aC
    have N102 := Fr.snoc X102 M101 ge_aC
    have K102 := Keep.wr K0 W102 (Or.inl (by simp))
    refine own_aloadN X102 hx (pc' := 81) rfl (hb hby d_prog_64_method_4_code_80) rfl rfl ?_
    refine own_iload X102 hx (pc' := 83) rfl (hb hby d_prog_64_method_4_code_81) rfl ?_
    refine own_dload X102 hx (pc' := 85) rfl (hb hby d_prog_64_method_4_code_83) rfl ?_
    refine own_stD X102 hx hZ e102 Arr_108 (k := 0) (by decide) (by decide) (by omega) (pc' := 86) rfl (hb hby d_prog_64_method_4_code_85) ?_
    intro T112 h112 X112 e112 W112 A112
    have Siz_113 := own_sizWr W112 Siz_103
    have Exa_114 := Exa.wr W112 Exa_104
    have Fld_115 := Fld.other W112 Fld_105 (Or.inl ne_a1_aS)
    have Fld_116 := Fld.other W112 Fld_106 (Or.inl ne_a1_aS)
    have Fld_117 := Fld.other W112 Fld_107 (Or.inl ne_a1_aS)
    have Arr_119 := own_Arr.other W112 Arr_110 (Ne.symm ne_aS_aM)
    have Arr_120 := own_Arr.other W112 Arr_111 ne_aV_aS
    have Arr_121 := own_Arr.other W112 A102 (Ne.symm ne_aS_aC)
    have N112 := Fr.snoc X112 N102 ge_aS
    have K112 := Keep.wr K102 W112 (Or.inl (by simp))
    refine own_aload X112 hx (pc' := 88) rfl (hb hby d_prog_64_method_4_code_86) rfl rfl ?_
    refine own_iload X112 hx (pc' := 90) rfl (hb hby d_prog_64_method_4_code_88) rfl ?_
    refine own_dup2 X112 hx (pc' := 91) rfl (hb hby d_prog_64_method_4_code_90) rfl rfl ?_
    refine own_ldD X112 hx hZ e112 Arr_119 (k := 0) (by decide) (by decide) (by omega) (v := (.double z0)) ez0 (pc' := 92) rfl (hb hby d_prog_64_method_4_code_91) ?_
    refine own_dload X112 hx (pc' := 94) rfl (hb hby d_prog_64_method_4_code_92) rfl ?_
    refine own_absD X112 hx hZ hown (hw _ (List.mem_of_getElem? (i := 52) rfl)) (hw _ (List.mem_of_getElem? (i := 31) rfl)) (hw _ (List.mem_of_getElem? (i := 32) rfl)) (hw _ (List.mem_of_getElem? (i := 33) rfl)) e112 (v := (FP.l2d (own_labs (wv 0)))) (own_nnI vI0) lb0.2.1 (by rw [hml]; rfl) (by decide) (W := 4) (Nat.le_of_eq rfl) (by decide) (by decide) (by decide) (pc' := 97) rfl (hb hby d_prog_64_method_4_code_94) ?_
    intro T122 X122 e122
    refine own_dadd X122 hx (v := (FP.dadd z0 (FP.l2d (own_labs (wv 0))))) (pc' := 98) rfl (hb hby d_prog_64_method_4_code_97) mm0.2 rfl ?_
    refine own_stD X122 hx hZ e122 Arr_119 (k := 0) (by decide) (by decide) (by omega) (pc' := 99) rfl (hb hby d_prog_64_method_4_code_98) ?_
    intro T123 h123 X123 e123 W123 A123
    have Siz_124 := own_sizWr W123 Siz_113
    have Exa_125 := Exa.wr W123 Exa_114
    have Fld_126 := Fld.other W123 Fld_115 (Or.inl ne_a1_aM)
    have Fld_127 := Fld.other W123 Fld_116 (Or.inl ne_a1_aM)
    have Fld_128 := Fld.other W123 Fld_117 (Or.inl ne_a1_aM)
    have Arr_130 := own_Arr.other W123 Arr_120 ne_aV_aM
    have Arr_131 := own_Arr.other W123 Arr_121 ne_aC_aM
    have Arr_132 := own_Arr.other W123 A112 ne_aS_aM
    have N123 := Fr.snoc X123 N112 ge_aM
    have K123 := Keep.wr K112 W123 (Or.inl (by simp))
    refine own_iinc X123 hx (v := (1 : Int32)) (Ls' := #[.val (.ref a1), .val (.ref aV), .val (.int (3 : Int32)), .val (.ref aS), .val (.ref aC), .val (.ref aM), .val (.int (1 : Int32)), .val (.double x0), .second, .val (.double (FP.l2d (wv 0))), .second, .val (.double (FP.dadd x0 (FP.l2d (wv 0)))), .second]) (pc' := 102) rfl (hb hby d_prog_64_method_4_code_99) rfl (by decide) rfl ?_
    refine own_goto X123 hx (pc' := 38) (hb hby d_prog_64_method_4_code_102) (by decide) (by decide) ?_
    refine own_iload X123 hx (pc' := 40) rfl (hb hby d_prog_64_method_4_code_38) rfl ?_
    refine own_iloadN X123 hx (pc' := 41) rfl (hb hby d_prog_64_method_4_code_40) rfl ?_
    refine own_icmpF X123 hx (pc' := 44) rfl (hb hby d_prog_64_method_4_code_41) (XT.ii_ge_f (by decide)) ?_
    refine own_aloadN X123 hx (pc' := 45) rfl (hb hby d_prog_64_method_4_code_44) rfl rfl ?_
    refine own_iload X123 hx (pc' := 47) rfl (hb hby d_prog_64_method_4_code_45) rfl ?_
    refine own_ldD X123 hx hZ e123 Arr_132 (k := 1) (by decide) (by decide) (by omega) (v := (.double x1)) ex1 (pc' := 48) rfl (hb hby d_prog_64_method_4_code_47) ?_
    refine own_dstore X123 hx (Ls' := #[.val (.ref a1), .val (.ref aV), .val (.int (3 : Int32)), .val (.ref aS), .val (.ref aC), .val (.ref aM), .val (.int (1 : Int32)), .val (.double x1), .second, .val (.double (FP.l2d (wv 0))), .second, .val (.double (FP.dadd x0 (FP.l2d (wv 0)))), .second]) (pc' := 50) rfl (hb hby d_prog_64_method_4_code_48) rfl ?_
    refine own_aloadN X123 hx (pc' := 51) rfl (hb hby d_prog_64_method_4_code_50) rfl rfl ?_
    refine own_iload X123 hx (pc' := 53) rfl (hb hby d_prog_64_method_4_code_51) rfl ?_
    refine own_ldD X123 hx hZ e123 Arr_130 (k := 1) (by decide) (by decide) (by decide) (v := (.double (FP.l2d (wv 1)))) ev1 (pc' := 54) rfl (hb hby d_prog_64_method_4_code_53) ?_
    refine own_dstore X123 hx (Ls' := #[.val (.ref a1), .val (.ref aV), .val (.int (3 : Int32)), .val (.ref aS), .val (.ref aC), .val (.ref aM), .val (.int (1 : Int32)), .val (.double x1), .second, .val (.double (FP.l2d (wv 1))), .second, .val (.double (FP.dadd x0 (FP.l2d (wv 0)))), .second]) (pc' := 56) rfl (hb hby d_prog_64_method_4_code_54) rfl ?_
    refine own_dload X123 hx (pc' := 58) rfl (hb hby d_prog_64_method_4_code_56) rfl ?_
    refine own_dload X123 hx (pc' := 60) rfl (hb hby d_prog_64_method_4_code_58) rfl ?_
    refine own_dadd X123 hx (v := (FP.dadd x1 (FP.l2d (wv 1)))) (pc' := 61) rfl (hb hby d_prog_64_method_4_code_60) ss1.2 rfl ?_
    refine own_dstore X123 hx (Ls' := #[.val (.ref a1), .val (.ref aV), .val (.int (3 : Int32)), .val (.ref aS), .val (.ref aC), .val (.ref aM), .val (.int (1 : Int32)), .val (.double x1), .second, .val (.double (FP.l2d (wv 1))), .second, .val (.double (FP.dadd x1 (FP.l2d (wv 1)))), .second]) (pc' := 63) rfl (hb hby d_prog_64_method_4_code_61) rfl ?_
    refine own_aload X123 hx (pc' := 65) rfl (hb hby d_prog_64_method_4_code_63) rfl rfl ?_
    refine own_iload X123 hx (pc' := 67) rfl (hb hby d_prog_64_method_4_code_65) rfl ?_
    refine own_dup2 X123 hx (pc' := 68) rfl (hb hby d_prog_64_method_4_code_67) rfl rfl ?_
    refine own_ldD X123 hx hZ e123 Arr_131 (k := 1) (by decide) (by decide) (by omega) (v := (.double y1)) ey1 (pc' := 69) rfl (hb hby d_prog_64_method_4_code_68) ?_
    refine own_dload X123 hx (pc' := 71) rfl (hb hby d_prog_64_method_4_code_69) rfl ?_
    refine own_dload X123 hx (pc' := 73) rfl (hb hby d_prog_64_method_4_code_71) rfl ?_
    refine own_dload X123 hx (pc' := 75) rfl (hb hby d_prog_64_method_4_code_73) rfl ?_
    refine own_callS X123 hx hZ (y := (⟨"com/example/ferrule/ferrule/matrix/CompensatedSum", "errorWithoutBranch", "(DDD)D"⟩ : MethodName)) hown (hw _ (List.mem_of_getElem? (i := 49) rfl)) (hw _ (List.mem_of_getElem? (i := 50) rfl)) (hw _ (List.mem_of_getElem? (i := 28) rfl)) (hw _ (List.mem_of_getElem? (i := 51) rfl))  (by decide) (rm_errW l Z a0 hw [] u1 (wv 1).toInt x1 (FP.l2d (wv 1)) (FP.dadd x1 (FP.l2d (wv 1))) h123 n0 Siz_124 dx1 vI1 ss1.1 ⟨by omega, by omega⟩) (by decide) (W := 4) (by decide) (by decide) (by decide) e123 (by rw [hml]; rfl) (argsL := [(.double x1), (.double (FP.l2d (wv 1))), (.double (FP.dadd x1 (FP.l2d (wv 1))))]) (rest := [(.double y1), (.int (1 : Int32)), (.ref aC)]) rfl (lenOf pd__DDD_D rfl) rfl (Nat.le_of_eq rfl) (pc' := 78) rfl (hb hby d_prog_64_method_4_code_75) ?_
    rintro _ T133 L133 X133 ⟨r133, rfl, hr133, N133, e133⟩
    have M133 := Fr.app N123 N133
    show own_Goes p e below T133 (mkF m 78 #[.val (.ref a1), .val (.ref aV), .val (.int (3 : Int32)), .val (.ref aS), .val (.ref aC), .val (.ref aM), .val (.int (1 : Int32)), .val (.double x1), .second, .val (.double (FP.l2d (wv 1))), .second, .val (.double (FP.dadd x1 (FP.l2d (wv 1)))), .second] [(.double r133), (.double y1), (.int (1 : Int32)), (.ref aC)]) _
    refine own_dadd X133 hx (v := (FP.dadd y1 r133)) (pc' := 79) rfl (hb hby d_prog_64_method_4_code_78) (own_addI dy1 hr133 (k := 0) (by omega) (by decide)).2 rfl ?_
    refine own_stD X133 hx hZ e133 Arr_131 (k := 1) (by decide) (by decide) (by omega) (pc' := 80) rfl (hb hby d_prog_64_method_4_code_79) ?_
    intro T134 h134 X134 e134 W134 A134
    have Siz_135 := own_sizWr W134 Siz_124
    have Exa_136 := Exa.wr W134 Exa_125
    have Fld_137 := Fld.other W134 Fld_126 (Or.inl ne_a1_aC)
    have Fld_138 := Fld.other W134 Fld_127 (Or.inl ne_a1_aC)
    have Fld_139 := Fld.other W134 Fld_128 (Or.inl ne_a1_aC)
    have Arr_140 := own_Arr.other W134 Arr_130 ne_aV_aC
    have Arr_142 := own_Arr.other W134 Arr_132 ne_aS_aC
    have Arr_143 := own_Arr.other W134 A123 (Ne.symm ne_aC_aM)
    have N134 := Fr.snoc X134 M133 ge_aC
    have K134 := Keep.wr K123 W134 (Or.inl (by simp))
    refine own_aloadN X134 hx (pc' := 81) rfl (hb hby d_prog_64_method_4_code_80) rfl rfl ?_
    refine own_iload X134 hx (pc' := 83) rfl (hb hby d_prog_64_method_4_code_81) rfl ?_
    refine own_dload X134 hx (pc' := 85) rfl (hb hby d_prog_64_method_4_code_83) rfl ?_
    refine own_stD X134 hx hZ e134 Arr_142 (k := 1) (by decide) (by decide) (by omega) (pc' := 86) rfl (hb hby d_prog_64_method_4_code_85) ?_
    intro T144 h144 X144 e144 W144 A144
    have Siz_145 := own_sizWr W144 Siz_135
    have Exa_146 := Exa.wr W144 Exa_136
    have Fld_147 := Fld.other W144 Fld_137 (Or.inl ne_a1_aS)
    have Fld_148 := Fld.other W144 Fld_138 (Or.inl ne_a1_aS)
    have Fld_149 := Fld.other W144 Fld_139 (Or.inl ne_a1_aS)
    have Arr_150 := own_Arr.other W144 Arr_140 ne_aV_aS
    have Arr_152 := own_Arr.other W144 Arr_143 (Ne.symm ne_aS_aM)
    have Arr_153 := own_Arr.other W144 A134 (Ne.symm ne_aS_aC)
    have N144 := Fr.snoc X144 N134 ge_aS
    have K144 := Keep.wr K134 W144 (Or.inl (by simp))
    refine own_aload X144 hx (pc' := 88) rfl (hb hby d_prog_64_method_4_code_86) rfl rfl ?_
    refine own_iload X144 hx (pc' := 90) rfl (hb hby d_prog_64_method_4_code_88) rfl ?_
    refine own_dup2 X144 hx (pc' := 91) rfl (hb hby d_prog_64_method_4_code_90) rfl rfl ?_
    refine own_ldD X144 hx hZ e144 Arr_152 (k := 1) (by decide) (by decide) (by omega) (v := (.double z1)) ez1 (pc' := 92) rfl (hb hby d_prog_64_method_4_code_91) ?_
    refine own_dload X144 hx (pc' := 94) rfl (hb hby d_prog_64_method_4_code_92) rfl ?_
    refine own_absD X144 hx hZ hown (hw _ (List.mem_of_getElem? (i := 52) rfl)) (hw _ (List.mem_of_getElem? (i := 31) rfl)) (hw _ (List.mem_of_getElem? (i := 32) rfl)) (hw _ (List.mem_of_getElem? (i := 33) rfl)) e144 (v := (FP.l2d (own_labs (wv 1)))) (own_nnI vI1) lb1.2.1 (by rw [hml]; rfl) (by decide) (W := 4) (Nat.le_of_eq rfl) (by decide) (by decide) (by decide) (pc' := 97) rfl (hb hby d_prog_64_method_4_code_94) ?_
    intro T154 X154 e154
    refine own_dadd X154 hx (v := (FP.dadd z1 (FP.l2d (own_labs (wv 1))))) (pc' := 98) rfl (hb hby d_prog_64_method_4_code_97) mm1.2 rfl ?_
    refine own_stD X154 hx hZ e154 Arr_152 (k := 1) (by decide) (by decide) (by omega) (pc' := 99) rfl (hb hby d_prog_64_method_4_code_98) ?_
    intro T155 h155 X155 e155 W155 A155
    have Siz_156 := own_sizWr W155 Siz_145
    have Exa_157 := Exa.wr W155 Exa_146
    have Fld_158 := Fld.other W155 Fld_147 (Or.inl ne_a1_aM)
    have Fld_159 := Fld.other W155 Fld_148 (Or.inl ne_a1_aM)
    have Fld_160 := Fld.other W155 Fld_149 (Or.inl ne_a1_aM)
    have Arr_161 := own_Arr.other W155 Arr_150 ne_aV_aM
    have Arr_163 := own_Arr.other W155 Arr_153 ne_aC_aM
    have Arr_164 := own_Arr.other W155 A144 ne_aS_aM
    have N155 := Fr.snoc X155 N144 ge_aM
    have K155 := Keep.wr K144 W155 (Or.inl (by simp))
    refine own_iinc X155 hx (v := (2 : Int32)) (Ls' := #[.val (.ref a1), .val (.ref aV), .val (.int (3 : Int32)), .val (.ref aS), .val (.ref aC), .val (.ref aM), .val (.int (2 : Int32)), .val (.double x1), .second, .val (.double (FP.l2d (wv 1))), .second, .val (.double (FP.dadd x1 (FP.l2d (wv 1)))), .second]) (pc' := 102) rfl (hb hby d_prog_64_method_4_code_99) rfl (by decide) rfl ?_
    refine own_goto X155 hx (pc' := 38) (hb hby d_prog_64_method_4_code_102) (by decide) (by decide) ?_
    refine own_iload X155 hx (pc' := 40) rfl (hb hby d_prog_64_method_4_code_38) rfl ?_
    refine own_iloadN X155 hx (pc' := 41) rfl (hb hby d_prog_64_method_4_code_40) rfl ?_
    refine own_icmpF X155 hx (pc' := 44) rfl (hb hby d_prog_64_method_4_code_41) (XT.ii_ge_f (by decide)) ?_
    refine own_aloadN X155 hx (pc' := 45) rfl (hb hby d_prog_64_method_4_code_44) rfl rfl ?_
    refine own_iload X155 hx (pc' := 47) rfl (hb hby d_prog_64_method_4_code_45) rfl ?_
    refine own_ldD X155 hx hZ e155 Arr_164 (k := 2) (by decide) (by decide) (by omega) (v := (.double x2)) ex2 (pc' := 48) rfl (hb hby d_prog_64_method_4_code_47) ?_
    refine own_dstore X155 hx (Ls' := #[.val (.ref a1), .val (.ref aV), .val (.int (3 : Int32)), .val (.ref aS), .val (.ref aC), .val (.ref aM), .val (.int (2 : Int32)), .val (.double x2), .second, .val (.double (FP.l2d (wv 1))), .second, .val (.double (FP.dadd x1 (FP.l2d (wv 1)))), .second]) (pc' := 50) rfl (hb hby d_prog_64_method_4_code_48) rfl ?_
    refine own_aloadN X155 hx (pc' := 51) rfl (hb hby d_prog_64_method_4_code_50) rfl rfl ?_
    refine own_iload X155 hx (pc' := 53) rfl (hb hby d_prog_64_method_4_code_51) rfl ?_
    refine own_ldD X155 hx hZ e155 Arr_161 (k := 2) (by decide) (by decide) (by decide) (v := (.double (FP.l2d (wv 2)))) ev2 (pc' := 54) rfl (hb hby d_prog_64_method_4_code_53) ?_
    refine own_dstore X155 hx (Ls' := #[.val (.ref a1), .val (.ref aV), .val (.int (3 : Int32)), .val (.ref aS), .val (.ref aC), .val (.ref aM), .val (.int (2 : Int32)), .val (.double x2), .second, .val (.double (FP.l2d (wv 2))), .second, .val (.double (FP.dadd x1 (FP.l2d (wv 1)))), .second]) (pc' := 56) rfl (hb hby d_prog_64_method_4_code_54) rfl ?_
    refine own_dload X155 hx (pc' := 58) rfl (hb hby d_prog_64_method_4_code_56) rfl ?_
    refine own_dload X155 hx (pc' := 60) rfl (hb hby d_prog_64_method_4_code_58) rfl ?_
    refine own_dadd X155 hx (v := (FP.dadd x2 (FP.l2d (wv 2)))) (pc' := 61) rfl (hb hby d_prog_64_method_4_code_60) ss2.2 rfl ?_
    refine own_dstore X155 hx (Ls' := #[.val (.ref a1), .val (.ref aV), .val (.int (3 : Int32)), .val (.ref aS), .val (.ref aC), .val (.ref aM), .val (.int (2 : Int32)), .val (.double x2), .second, .val (.double (FP.l2d (wv 2))), .second, .val (.double (FP.dadd x2 (FP.l2d (wv 2)))), .second]) (pc' := 63) rfl (hb hby d_prog_64_method_4_code_61) rfl ?_
    refine own_aload X155 hx (pc' := 65) rfl (hb hby d_prog_64_method_4_code_63) rfl rfl ?_
    refine own_iload X155 hx (pc' := 67) rfl (hb hby d_prog_64_method_4_code_65) rfl ?_
    refine own_dup2 X155 hx (pc' := 68) rfl (hb hby d_prog_64_method_4_code_67) rfl rfl ?_
    refine own_ldD X155 hx hZ e155 Arr_163 (k := 2) (by decide) (by decide) (by omega) (v := (.double y2)) ey2 (pc' := 69) rfl (hb hby d_prog_64_method_4_code_68) ?_
    refine own_dload X155 hx (pc' := 71) rfl (hb hby d_prog_64_method_4_code_69) rfl ?_
    refine own_dload X155 hx (pc' := 73) rfl (hb hby d_prog_64_method_4_code_71) rfl ?_
    refine own_dload X155 hx (pc' := 75) rfl (hb hby d_prog_64_method_4_code_73) rfl ?_
    refine own_callS X155 hx hZ (y := (⟨"com/example/ferrule/ferrule/matrix/CompensatedSum", "errorWithoutBranch", "(DDD)D"⟩ : MethodName)) hown (hw _ (List.mem_of_getElem? (i := 49) rfl)) (hw _ (List.mem_of_getElem? (i := 50) rfl)) (hw _ (List.mem_of_getElem? (i := 28) rfl)) (hw _ (List.mem_of_getElem? (i := 51) rfl))  (by decide) (rm_errW l Z a0 hw [] u2 (wv 2).toInt x2 (FP.l2d (wv 2)) (FP.dadd x2 (FP.l2d (wv 2))) h155 n0 Siz_156 dx2 vI2 ss2.1 ⟨by omega, by omega⟩) (by decide) (W := 4) (by decide) (by decide) (by decide) e155 (by rw [hml]; rfl) (argsL := [(.double x2), (.double (FP.l2d (wv 2))), (.double (FP.dadd x2 (FP.l2d (wv 2))))]) (rest := [(.double y2), (.int (2 : Int32)), (.ref aC)]) rfl (lenOf pd__DDD_D rfl) rfl (Nat.le_of_eq rfl) (pc' := 78) rfl (hb hby d_prog_64_method_4_code_75) ?_
    rintro _ T165 L165 X165 ⟨r165, rfl, hr165, N165, e165⟩
    have M165 := Fr.app N155 N165
    show own_Goes p e below T165 (mkF m 78 #[.val (.ref a1), .val (.ref aV), .val (.int (3 : Int32)), .val (.ref aS), .val (.ref aC), .val (.ref aM), .val (.int (2 : Int32)), .val (.double x2), .second, .val (.double (FP.l2d (wv 2))), .second, .val (.double (FP.dadd x2 (FP.l2d (wv 2)))), .second] [(.double r165), (.double y2), (.int (2 : Int32)), (.ref aC)]) _
    refine own_dadd X165 hx (v := (FP.dadd y2 r165)) (pc' := 79) rfl (hb hby d_prog_64_method_4_code_78) (own_addI dy2 hr165 (k := 0) (by omega) (by decide)).2 rfl ?_
    refine own_stD X165 hx hZ e165 Arr_163 (k := 2) (by decide) (by decide) (by omega) (pc' := 80) rfl (hb hby d_prog_64_method_4_code_79) ?_
    intro T166 h166 X166 e166 W166 A166
    have Siz_167 := own_sizWr W166 Siz_156
    have Exa_168 := Exa.wr W166 Exa_157
    have Fld_169 := Fld.other W166 Fld_158 (Or.inl ne_a1_aC)
    have Fld_170 := Fld.other W166 Fld_159 (Or.inl ne_a1_aC)
    have Fld_171 := Fld.other W166 Fld_160 (Or.inl ne_a1_aC)
    have Arr_172 := own_Arr.other W166 Arr_161 ne_aV_aC
    have Arr_174 := own_Arr.other W166 Arr_164 ne_aS_aC
    have Arr_175 := own_Arr.other W166 A155 (Ne.symm ne_aC_aM)
    have N166 := Fr.snoc X166 M165 ge_aC
    have K166 := Keep.wr K155 W166 (Or.inl (by simp))
    refine own_aloadN X166 hx (pc' := 81) rfl (hb hby d_prog_64_method_4_code_80) rfl rfl ?_
    refine own_iload X166 hx (pc' := 83) rfl (hb hby d_prog_64_method_4_code_81) rfl ?_
    refine own_dload X166 hx (pc' := 85) rfl (hb hby d_prog_64_method_4_code_83) rfl ?_
    refine own_stD X166 hx hZ e166 Arr_174 (k := 2) (by decide) (by decide) (by omega) (pc' := 86) rfl (hb hby d_prog_64_method_4_code_85) ?_
    intro T176 h176 X176 e176 W176 A176
    have Siz_177 := own_sizWr W176 Siz_167
    have Exa_178 := Exa.wr W176 Exa_168
    have Fld_179 := Fld.other W176 Fld_169 (Or.inl ne_a1_aS)
    have Fld_180 := Fld.other W176 Fld_170 (Or.inl ne_a1_aS)
    have Fld_181 := Fld.other W176 Fld_171 (Or.inl ne_a1_aS)
    have Arr_182 := own_Arr.other W176 Arr_172 ne_aV_aS
    have Arr_184 := own_Arr.other W176 Arr_175 (Ne.symm ne_aS_aM)
    have Arr_185 := own_Arr.other W176 A166 (Ne.symm ne_aS_aC)
    have N176 := Fr.snoc X176 N166 ge_aS
    have K176 := Keep.wr K166 W176 (Or.inl (by simp))
    refine own_aload X176 hx (pc' := 88) rfl (hb hby d_prog_64_method_4_code_86) rfl rfl ?_
    refine own_iload X176 hx (pc' := 90) rfl (hb hby d_prog_64_method_4_code_88) rfl ?_
    refine own_dup2 X176 hx (pc' := 91) rfl (hb hby d_prog_64_method_4_code_90) rfl rfl ?_
    refine own_ldD X176 hx hZ e176 Arr_184 (k := 2) (by decide) (by decide) (by omega) (v := (.double z2)) ez2 (pc' := 92) rfl (hb hby d_prog_64_method_4_code_91) ?_
    refine own_dload X176 hx (pc' := 94) rfl (hb hby d_prog_64_method_4_code_92) rfl ?_
    refine own_absD X176 hx hZ hown (hw _ (List.mem_of_getElem? (i := 52) rfl)) (hw _ (List.mem_of_getElem? (i := 31) rfl)) (hw _ (List.mem_of_getElem? (i := 32) rfl)) (hw _ (List.mem_of_getElem? (i := 33) rfl)) e176 (v := (FP.l2d (own_labs (wv 2)))) (own_nnI vI2) lb2.2.1 (by rw [hml]; rfl) (by decide) (W := 4) (Nat.le_of_eq rfl) (by decide) (by decide) (by decide) (pc' := 97) rfl (hb hby d_prog_64_method_4_code_94) ?_
    intro T186 X186 e186
    refine own_dadd X186 hx (v := (FP.dadd z2 (FP.l2d (own_labs (wv 2))))) (pc' := 98) rfl (hb hby d_prog_64_method_4_code_97) mm2.2 rfl ?_
    refine own_stD X186 hx hZ e186 Arr_184 (k := 2) (by decide) (by decide) (by omega) (pc' := 99) rfl (hb hby d_prog_64_method_4_code_98) ?_
    intro T187 h187 X187 e187 W187 A187
    have Siz_188 := own_sizWr W187 Siz_177
    have Exa_189 := Exa.wr W187 Exa_178
    have Fld_190 := Fld.other W187 Fld_179 (Or.inl ne_a1_aM)
    have Fld_191 := Fld.other W187 Fld_180 (Or.inl ne_a1_aM)
    have Fld_192 := Fld.other W187 Fld_181 (Or.inl ne_a1_aM)
    have Arr_193 := own_Arr.other W187 Arr_182 ne_aV_aM
    have Arr_195 := own_Arr.other W187 Arr_185 ne_aC_aM
    have Arr_196 := own_Arr.other W187 A176 ne_aS_aM
    have N187 := Fr.snoc X187 N176 ge_aM
    have K187 := Keep.wr K176 W187 (Or.inl (by simp))
    refine own_iinc X187 hx (v := (3 : Int32)) (Ls' := #[.val (.ref a1), .val (.ref aV), .val (.int (3 : Int32)), .val (.ref aS), .val (.ref aC), .val (.ref aM), .val (.int (3 : Int32)), .val (.double x2), .second, .val (.double (FP.l2d (wv 2))), .second, .val (.double (FP.dadd x2 (FP.l2d (wv 2)))), .second]) (pc' := 102) rfl (hb hby d_prog_64_method_4_code_99) rfl (by decide) rfl ?_
    refine own_goto X187 hx (pc' := 38) (hb hby d_prog_64_method_4_code_102) (by decide) (by decide) ?_
    refine own_iload X187 hx (pc' := 40) rfl (hb hby d_prog_64_method_4_code_38) rfl ?_
    refine own_iloadN X187 hx (pc' := 41) rfl (hb hby d_prog_64_method_4_code_40) rfl ?_
    refine own_icmpT X187 hx (pc' := 105) (hb hby d_prog_64_method_4_code_41) (XT.ii_ge_t (by decide)) (by decide) (by decide) ?_
    refine own_ret X187 hx hlk hret (hb hby d_prog_64_method_4_code_105) (by decide) (by decide) ?_
    rw [e187]
    exact ⟨rfl, N187, K187, _, _, _, Arr_196, (own_DB.upd (own_DB.upd (own_DB.upd (hS.mono (by omega)) 0 ss0.1 (by omega)) 1 ss1.1 (by omega)) 2 ss2.1 (by omega)), Arr_195, (own_DB.upd (own_DB.upd (own_DB.upd hC 0 (own_addI dy0 hr101 (k := 0) (by omega) (by decide)).1 (by decide)) 1 (own_addI dy1 hr133 (k := 0) (by omega) (by decide)).1 (by decide)) 2 (own_addI dy2 hr165 (k := 0) (by omega) (by decide)).1 (by decide)), A187, (own_DA.congr (own_DA.upd (own_DA.upd (own_DA.upd hD 0 mm0.1) 1 mm1.1) 2 mm2.1) (by intro j; rcases j with _ | _ | _ | _ | j <;> first | (simp [own_updG, own_addG]; done) | (simp [own_updG, own_addG]; intro hh; omega)))⟩
  · obtain ⟨x0, u0, ex0, dx0, bx0⟩ := hS 0 (by omega)
    obtain ⟨y0, t0, ey0, dy0, bY0⟩ := hC 0 (by omega)
    obtain rfl : t0 = 0 := by omega
    obtain ⟨ev0, bv0⟩ := hV 0 (by decide)
    have vI0 := own_vI bv0
    have lb0 := own_labsI bv0
    have ss0 := own_addI dx0 vI0 (k := u0 + (wv 0).toInt) rfl (by omega)
    obtain ⟨z0, ez0, dz0⟩ := hD 0 (by omega)
    have gb0 := hg 0
    have mm0 := own_addI dz0 lb0.2.2 (k := gm 0 + (own_labs (wv 0)).toInt) rfl (by have := lb0.1; omega)
    obtain ⟨x1, u1, ex1, dx1, bx1⟩ := hS 1 (by omega)
    obtain ⟨y1, t1, ey1, dy1, bY1⟩ := hC 1 (by omega)
    obtain rfl : t1 = 0 := by omega
    obtain ⟨ev1, bv1⟩ := hV 1 (by decide)
    have vI1 := own_vI bv1
    have lb1 := own_labsI bv1
    have ss1 := own_addI dx1 vI1 (k := u1 + (wv 1).toInt) rfl (by omega)
    obtain ⟨z1, ez1, dz1⟩ := hD 1 (by omega)
    have gb1 := hg 1
    have mm1 := own_addI dz1 lb1.2.2 (k := gm 1 + (own_labs (wv 1)).toInt) rfl (by have := lb1.1; omega)
    obtain ⟨x2, u2, ex2, dx2, bx2⟩ := hS 2 (by omega)
    obtain ⟨y2, t2, ey2, dy2, bY2⟩ := hC 2 (by omega)
    obtain rfl : t2 = 0 := by omega
    obtain ⟨ev2, bv2⟩ := hV 2 (by decide)
    have vI2 := own_vI bv2
    have lb2 := own_labsI bv2
    have ss2 := own_addI dx2 vI2 (k := u2 + (wv 2).toInt) rfl (by omega)
    obtain ⟨z2, ez2, dz2⟩ := hD 2 (by omega)
    have gb2 := hg 2
    have mm2 := own_addI dz2 lb2.2.2 (k := gm 2 + (own_labs (wv 2)).toInt) rfl (by have := lb2.1; omega)
    obtain ⟨x3, u3, ex3, dx3, bx3⟩ := hS 3 (by omega)
    obtain ⟨y3, t3, ey3, dy3, bY3⟩ := hC 3 (by omega)
    obtain rfl : t3 = 0 := by omega
    obtain ⟨ev3, bv3⟩ := hV 3 (by decide)
    have vI3 := own_vI bv3
    have lb3 := own_labsI bv3
    have ss3 := own_addI dx3 vI3 (k := u3 + (wv 3).toInt) rfl (by omega)
    obtain ⟨z3, ez3, dz3⟩ := hD 3 (by omega)
    have gb3 := hg 3
    have mm3 := own_addI dz3 lb3.2.2 (k := gm 3 + (own_labs (wv 3)).toInt) rfl (by have := lb3.1; omega)
    refine own_iconst X4 hx (v := (0 : Int32)) (pc' := 36) rfl (hb hby d_prog_64_method_4_code_35) rfl ?_
    refine own_istore X4 hx (Ls' := #[.val (.ref a1), .val (.ref aV), .val (.int (4 : Int32)), .val (.ref aS), .val (.ref aC), .val (.ref aM), .val (.int (0 : Int32)), .unset, .unset, .unset, .unset, .unset, .unset]) (pc' := 38) rfl (hb hby d_prog_64_method_4_code_36) rfl ?_
    refine own_iload X4 hx (pc' := 40) rfl (hb hby d_prog_64_method_4_code_38) rfl ?_
    refine own_iloadN X4 hx (pc' := 41) rfl (hb hby d_prog_64_method_4_code_40) rfl ?_
    refine own_icmpF X4 hx (pc' := 44) rfl (hb hby d_prog_64_method_4_code_41) (XT.ii_ge_f (by decide)) ?_
    refine own_aloadN X4 hx (pc' := 45) rfl (hb hby d_prog_64_method_4_code_44) rfl rfl ?_
    refine own_iload X4 hx (pc' := 47) rfl (hb hby d_prog_64_method_4_code_45) rfl ?_
    refine own_ldD X4 hx hZ e4 I4 (k := 0) (by decide) (by decide) (by omega) (v := (.double x0)) ex0 (pc' := 48) rfl (hb hby d_prog_64_method_4_code_47) ?_
    refine own_dstore X4 hx (Ls' := #[.val (.ref a1), .val (.ref aV), .val (.int (4 : Int32)), .val (.ref aS), .val (.ref aC), .val (.ref aM), .val (.int (0 : Int32)), .val (.double x0), .second, .unset, .unset, .unset, .unset]) (pc' := 50) rfl (hb hby d_prog_64_method_4_code_48) rfl ?_
    refine own_aloadN X4 hx (pc' := 51) rfl (hb hby d_prog_64_method_4_code_50) rfl rfl ?_
    refine own_iload X4 hx (pc' := 53) rfl (hb hby d_prog_64_method_4_code_51) rfl ?_
    refine own_ldD X4 hx hZ e4 I7 (k := 0) (by decide) (by decide) (by decide) (v := (.double (FP.l2d (wv 0)))) ev0 (pc' := 54) rfl (hb hby d_prog_64_method_4_code_53) ?_
    refine own_dstore X4 hx (Ls' := #[.val (.ref a1), .val (.ref aV), .val (.int (4 : Int32)), .val (.ref aS), .val (.ref aC), .val (.ref aM), .val (.int (0 : Int32)), .val (.double x0), .second, .val (.double (FP.l2d (wv 0))), .second, .unset, .unset]) (pc' := 56) rfl (hb hby d_prog_64_method_4_code_54) rfl ?_
    refine own_dload X4 hx (pc' := 58) rfl (hb hby d_prog_64_method_4_code_56) rfl ?_
    refine own_dload X4 hx (pc' := 60) rfl (hb hby d_prog_64_method_4_code_58) rfl ?_
    refine own_dadd X4 hx (v := (FP.dadd x0 (FP.l2d (wv 0)))) (pc' := 61) rfl (hb hby d_prog_64_method_4_code_60) ss0.2 rfl ?_
    refine own_dstore X4 hx (Ls' := #[.val (.ref a1), .val (.ref aV), .val (.int (4 : Int32)), .val (.ref aS), .val (.ref aC), .val (.ref aM), .val (.int (0 : Int32)), .val (.double x0), .second, .val (.double (FP.l2d (wv 0))), .second, .val (.double (FP.dadd x0 (FP.l2d (wv 0)))), .second]) (pc' := 63) rfl (hb hby d_prog_64_method_4_code_61) rfl ?_
    refine own_aload X4 hx (pc' := 65) rfl (hb hby d_prog_64_method_4_code_63) rfl rfl ?_
    refine own_iload X4 hx (pc' := 67) rfl (hb hby d_prog_64_method_4_code_65) rfl ?_
    refine own_dup2 X4 hx (pc' := 68) rfl (hb hby d_prog_64_method_4_code_67) rfl rfl ?_
    refine own_ldD X4 hx hZ e4 I5 (k := 0) (by decide) (by decide) (by omega) (v := (.double y0)) ey0 (pc' := 69) rfl (hb hby d_prog_64_method_4_code_68) ?_
    refine own_dload X4 hx (pc' := 71) rfl (hb hby d_prog_64_method_4_code_69) rfl ?_
    refine own_dload X4 hx (pc' := 73) rfl (hb hby d_prog_64_method_4_code_71) rfl ?_
    refine own_dload X4 hx (pc' := 75) rfl (hb hby d_prog_64_method_4_code_73) rfl ?_
    refine own_callS X4 hx hZ (y := (⟨"com/example/ferrule/ferrule/matrix/CompensatedSum", "errorWithoutBranch", "(DDD)D"⟩ : MethodName)) hown (hw _ (List.mem_of_getElem? (i := 49) rfl)) (hw _ (List.mem_of_getElem? (i := 50) rfl)) (hw _ (List.mem_of_getElem? (i := 28) rfl)) (hw _ (List.mem_of_getElem? (i := 51) rfl))  (by decide) (rm_errW l Z a0 hw [] u0 (wv 0).toInt x0 (FP.l2d (wv 0)) (FP.dadd x0 (FP.l2d (wv 0))) h0 n0 Z0 dx0 vI0 ss0.1 ⟨by omega, by omega⟩) (by decide) (W := 4) (by decide) (by decide) (by decide) e4 (by rw [hml]; rfl) (argsL := [(.double x0), (.double (FP.l2d (wv 0))), (.double (FP.dadd x0 (FP.l2d (wv 0))))]) (rest := [(.double y0), (.int (0 : Int32)), (.ref aC)]) rfl (lenOf pd__DDD_D rfl) rfl (Nat.le_of_eq rfl) (pc' := 78) rfl (hb hby d_prog_64_method_4_code_75) ?_
    rintro _ T197 L197 X197 ⟨r197, rfl, hr197, N197, e197⟩
    have M197 := Fr.app N0 N197
    show own_Goes p e below T197 (mkF m 78 #[.val (.ref a1), .val (.ref aV), .val (.int (4 : Int32)), .val (.ref aS), .val (.ref aC), .val (.ref aM), .val (.int (0 : Int32)), .val (.double x0), .second, .val (.double (FP.l2d (wv 0))), .second, .val (.double (FP.dadd x0 (FP.l2d (wv 0)))), .second] [(.double r197), (.double y0), (.int (0 : Int32)), (.ref aC)]) _
    refine own_dadd X197 hx (v := (FP.dadd y0 r197)) (pc' := 79) rfl (hb hby d_prog_64_method_4_code_78) (own_addI dy0 hr197 (k := 0) (by omega) (by decide)).2 rfl ?_
    refine own_stD X197 hx hZ e197 I5 (k := 0) (by decide) (by decide) (by omega) (pc' := 80) rfl (hb hby d_prog_64_method_4_code_79) ?_
    intro T198 h198 X198 e198 W198 A198
    have Siz_199 := own_sizWr W198 Z0
    have Exa_200 := Exa.wr W198 I0
    have Fld_201 := Fld.other W198 I1 (Or.inl ne_a1_aC)
    have Fld_202 := Fld.other W198 I2 (Or.inl ne_a1_aC)
    have Fld_203 := Fld.other W198 I3 (Or.inl ne_a1_aC)
    have Arr_204 := own_Arr.other W198 I4 ne_aS_aC
    have Arr_206 := own_Arr.other W198 I6 (Ne.symm ne_aC_aM)
    have Arr_207 := own_Arr.other W198 I7 ne_aV_aC
    have N198 := Fr.snoc X198 M197 ge_aC
    have K198 := Keep.wr K0 W198 (Or.inl (by simp))
    refine own_aloadN X198 hx (pc' := 81) rfl (hb hby d_prog_64_method_4_code_80) rfl rfl ?_
    refine own_iload X198 hx (pc' := 83) rfl (hb hby d_prog_64_method_4_code_81) rfl ?_
    refine own_dload X198 hx (pc' := 85) rfl (hb hby d_prog_64_method_4_code_83) rfl ?_
    refine own_stD X198 hx hZ e198 Arr_204 (k := 0) (by decide) (by decide) (by omega) (pc' := 86) rfl (hb hby d_prog_64_method_4_code_85) ?_
    intro T208 h208 X208 e208 W208 A208
    have Siz_209 := own_sizWr W208 Siz_199
    have Exa_210 := Exa.wr W208 Exa_200
    have Fld_211 := Fld.other W208 Fld_201 (Or.inl ne_a1_aS)
    have Fld_212 := Fld.other W208 Fld_202 (Or.inl ne_a1_aS)
    have Fld_213 := Fld.other W208 Fld_203 (Or.inl ne_a1_aS)
    have Arr_215 := own_Arr.other W208 Arr_206 (Ne.symm ne_aS_aM)
    have Arr_216 := own_Arr.other W208 Arr_207 ne_aV_aS
    have Arr_217 := own_Arr.other W208 A198 (Ne.symm ne_aS_aC)
    have N208 := Fr.snoc X208 N198 ge_aS
    have K208 := Keep.wr K198 W208 (Or.inl (by simp))
    refine own_aload X208 hx (pc' := 88) rfl (hb hby d_prog_64_method_4_code_86) rfl rfl ?_
    refine own_iload X208 hx (pc' := 90) rfl (hb hby d_prog_64_method_4_code_88) rfl ?_
    refine own_dup2 X208 hx (pc' := 91) rfl (hb hby d_prog_64_method_4_code_90) rfl rfl ?_
    refine own_ldD X208 hx hZ e208 Arr_215 (k := 0) (by decide) (by decide) (by omega) (v := (.double z0)) ez0 (pc' := 92) rfl (hb hby d_prog_64_method_4_code_91) ?_
    refine own_dload X208 hx (pc' := 94) rfl (hb hby d_prog_64_method_4_code_92) rfl ?_
    refine own_absD X208 hx hZ hown (hw _ (List.mem_of_getElem? (i := 52) rfl)) (hw _ (List.mem_of_getElem? (i := 31) rfl)) (hw _ (List.mem_of_getElem? (i := 32) rfl)) (hw _ (List.mem_of_getElem? (i := 33) rfl)) e208 (v := (FP.l2d (own_labs (wv 0)))) (own_nnI vI0) lb0.2.1 (by rw [hml]; rfl) (by decide) (W := 4) (Nat.le_of_eq rfl) (by decide) (by decide) (by decide) (pc' := 97) rfl (hb hby d_prog_64_method_4_code_94) ?_
    intro T218 X218 e218
    refine own_dadd X218 hx (v := (FP.dadd z0 (FP.l2d (own_labs (wv 0))))) (pc' := 98) rfl (hb hby d_prog_64_method_4_code_97) mm0.2 rfl ?_
    refine own_stD X218 hx hZ e218 Arr_215 (k := 0) (by decide) (by decide) (by omega) (pc' := 99) rfl (hb hby d_prog_64_method_4_code_98) ?_
    intro T219 h219 X219 e219 W219 A219
    have Siz_220 := own_sizWr W219 Siz_209
    have Exa_221 := Exa.wr W219 Exa_210
    have Fld_222 := Fld.other W219 Fld_211 (Or.inl ne_a1_aM)
    have Fld_223 := Fld.other W219 Fld_212 (Or.inl ne_a1_aM)
    have Fld_224 := Fld.other W219 Fld_213 (Or.inl ne_a1_aM)
    have Arr_226 := own_Arr.other W219 Arr_216 ne_aV_aM
    have Arr_227 := own_Arr.other W219 Arr_217 ne_aC_aM
    have Arr_228 := own_Arr.other W219 A208 ne_aS_aM
    have N219 := Fr.snoc X219 N208 ge_aM
    have K219 := Keep.wr K208 W219 (Or.inl (by simp))
    refine own_iinc X219 hx (v := (1 : Int32)) (Ls' := #[.val (.ref a1), .val (.ref aV), .val (.int (4 : Int32)), .val (.ref aS), .val (.ref aC), .val (.ref aM), .val (.int (1 : Int32)), .val (.double x0), .second, .val (.double (FP.l2d (wv 0))), .second, .val (.double (FP.dadd x0 (FP.l2d (wv 0)))), .second]) (pc' := 102) rfl (hb hby d_prog_64_method_4_code_99) rfl (by decide) rfl ?_
    refine own_goto X219 hx (pc' := 38) (hb hby d_prog_64_method_4_code_102) (by decide) (by decide) ?_
    refine own_iload X219 hx (pc' := 40) rfl (hb hby d_prog_64_method_4_code_38) rfl ?_
    refine own_iloadN X219 hx (pc' := 41) rfl (hb hby d_prog_64_method_4_code_40) rfl ?_
    refine own_icmpF X219 hx (pc' := 44) rfl (hb hby d_prog_64_method_4_code_41) (XT.ii_ge_f (by decide)) ?_
    refine own_aloadN X219 hx (pc' := 45) rfl (hb hby d_prog_64_method_4_code_44) rfl rfl ?_
    refine own_iload X219 hx (pc' := 47) rfl (hb hby d_prog_64_method_4_code_45) rfl ?_
    refine own_ldD X219 hx hZ e219 Arr_228 (k := 1) (by decide) (by decide) (by omega) (v := (.double x1)) ex1 (pc' := 48) rfl (hb hby d_prog_64_method_4_code_47) ?_
    refine own_dstore X219 hx (Ls' := #[.val (.ref a1), .val (.ref aV), .val (.int (4 : Int32)), .val (.ref aS), .val (.ref aC), .val (.ref aM), .val (.int (1 : Int32)), .val (.double x1), .second, .val (.double (FP.l2d (wv 0))), .second, .val (.double (FP.dadd x0 (FP.l2d (wv 0)))), .second]) (pc' := 50) rfl (hb hby d_prog_64_method_4_code_48) rfl ?_
    refine own_aloadN X219 hx (pc' := 51) rfl (hb hby d_prog_64_method_4_code_50) rfl rfl ?_
    refine own_iload X219 hx (pc' := 53) rfl (hb hby d_prog_64_method_4_code_51) rfl ?_
    refine own_ldD X219 hx hZ e219 Arr_226 (k := 1) (by decide) (by decide) (by decide) (v := (.double (FP.l2d (wv 1)))) ev1 (pc' := 54) rfl (hb hby d_prog_64_method_4_code_53) ?_
    refine own_dstore X219 hx (Ls' := #[.val (.ref a1), .val (.ref aV), .val (.int (4 : Int32)), .val (.ref aS), .val (.ref aC), .val (.ref aM), .val (.int (1 : Int32)), .val (.double x1), .second, .val (.double (FP.l2d (wv 1))), .second, .val (.double (FP.dadd x0 (FP.l2d (wv 0)))), .second]) (pc' := 56) rfl (hb hby d_prog_64_method_4_code_54) rfl ?_
    refine own_dload X219 hx (pc' := 58) rfl (hb hby d_prog_64_method_4_code_56) rfl ?_
    refine own_dload X219 hx (pc' := 60) rfl (hb hby d_prog_64_method_4_code_58) rfl ?_
    refine own_dadd X219 hx (v := (FP.dadd x1 (FP.l2d (wv 1)))) (pc' := 61) rfl (hb hby d_prog_64_method_4_code_60) ss1.2 rfl ?_
    refine own_dstore X219 hx (Ls' := #[.val (.ref a1), .val (.ref aV), .val (.int (4 : Int32)), .val (.ref aS), .val (.ref aC), .val (.ref aM), .val (.int (1 : Int32)), .val (.double x1), .second, .val (.double (FP.l2d (wv 1))), .second, .val (.double (FP.dadd x1 (FP.l2d (wv 1)))), .second]) (pc' := 63) rfl (hb hby d_prog_64_method_4_code_61) rfl ?_
    refine own_aload X219 hx (pc' := 65) rfl (hb hby d_prog_64_method_4_code_63) rfl rfl ?_
    refine own_iload X219 hx (pc' := 67) rfl (hb hby d_prog_64_method_4_code_65) rfl ?_
    refine own_dup2 X219 hx (pc' := 68) rfl (hb hby d_prog_64_method_4_code_67) rfl rfl ?_
    refine own_ldD X219 hx hZ e219 Arr_227 (k := 1) (by decide) (by decide) (by omega) (v := (.double y1)) ey1 (pc' := 69) rfl (hb hby d_prog_64_method_4_code_68) ?_
    refine own_dload X219 hx (pc' := 71) rfl (hb hby d_prog_64_method_4_code_69) rfl ?_
    refine own_dload X219 hx (pc' := 73) rfl (hb hby d_prog_64_method_4_code_71) rfl ?_
    refine own_dload X219 hx (pc' := 75) rfl (hb hby d_prog_64_method_4_code_73) rfl ?_
    refine own_callS X219 hx hZ (y := (⟨"com/example/ferrule/ferrule/matrix/CompensatedSum", "errorWithoutBranch", "(DDD)D"⟩ : MethodName)) hown (hw _ (List.mem_of_getElem? (i := 49) rfl)) (hw _ (List.mem_of_getElem? (i := 50) rfl)) (hw _ (List.mem_of_getElem? (i := 28) rfl)) (hw _ (List.mem_of_getElem? (i := 51) rfl))  (by decide) (rm_errW l Z a0 hw [] u1 (wv 1).toInt x1 (FP.l2d (wv 1)) (FP.dadd x1 (FP.l2d (wv 1))) h219 n0 Siz_220 dx1 vI1 ss1.1 ⟨by omega, by omega⟩) (by decide) (W := 4) (by decide) (by decide) (by decide) e219 (by rw [hml]; rfl) (argsL := [(.double x1), (.double (FP.l2d (wv 1))), (.double (FP.dadd x1 (FP.l2d (wv 1))))]) (rest := [(.double y1), (.int (1 : Int32)), (.ref aC)]) rfl (lenOf pd__DDD_D rfl) rfl (Nat.le_of_eq rfl) (pc' := 78) rfl (hb hby d_prog_64_method_4_code_75) ?_
    rintro _ T229 L229 X229 ⟨r229, rfl, hr229, N229, e229⟩
    have M229 := Fr.app N219 N229
    show own_Goes p e below T229 (mkF m 78 #[.val (.ref a1), .val (.ref aV), .val (.int (4 : Int32)), .val (.ref aS), .val (.ref aC), .val (.ref aM), .val (.int (1 : Int32)), .val (.double x1), .second, .val (.double (FP.l2d (wv 1))), .second, .val (.double (FP.dadd x1 (FP.l2d (wv 1)))), .second] [(.double r229), (.double y1), (.int (1 : Int32)), (.ref aC)]) _
    refine own_dadd X229 hx (v := (FP.dadd y1 r229)) (pc' := 79) rfl (hb hby d_prog_64_method_4_code_78) (own_addI dy1 hr229 (k := 0) (by omega) (by decide)).2 rfl ?_
    refine own_stD X229 hx hZ e229 Arr_227 (k := 1) (by decide) (by decide) (by omega) (pc' := 80) rfl (hb hby d_prog_64_method_4_code_79) ?_
    intro T230 h230 X230 e230 W230 A230
    have Siz_231 := own_sizWr W230 Siz_220
    have Exa_232 := Exa.wr W230 Exa_221
    have Fld_233 := Fld.other W230 Fld_222 (Or.inl ne_a1_aC)
    have Fld_234 := Fld.other W230 Fld_223 (Or.inl ne_a1_aC)
    have Fld_235 := Fld.other W230 Fld_224 (Or.inl ne_a1_aC)
    have Arr_236 := own_Arr.other W230 Arr_226 ne_aV_aC
    have Arr_238 := own_Arr.other W230 Arr_228 ne_aS_aC
    have Arr_239 := own_Arr.other W230 A219 (Ne.symm ne_aC_aM)
    have N230 := Fr.snoc X230 M229 ge_aC
    have K230 := Keep.wr K219 W230 (Or.inl (by simp))
    refine own_aloadN X230 hx (pc' := 81) rfl (hb hby d_prog_64_method_4_code_80) rfl rfl ?_
    refine own_iload X230 hx (pc' := 83) rfl (hb hby d_prog_64_method_4_code_81) rfl ?_
    refine own_dload X230 hx (pc' := 85) rfl (hb hby d_prog_64_method_4_code_83) rfl ?_
    refine own_stD X230 hx hZ e230 Arr_238 (k := 1) (by decide) (by decide) (by omega) (pc' := 86) rfl (hb hby d_prog_64_method_4_code_85) ?_
    intro T240 h240 X240 e240 W240 A240
    have Siz_241 := own_sizWr W240 Siz_231
    have Exa_242 := Exa.wr W240 Exa_232
    have Fld_243 := Fld.other W240 Fld_233 (Or.inl ne_a1_aS)
    have Fld_244 := Fld.other W240 Fld_234 (Or.inl ne_a1_aS)
    have Fld_245 := Fld.other W240 Fld_235 (Or.inl ne_a1_aS)
    have Arr_246 := own_Arr.other W240 Arr_236 ne_aV_aS
    have Arr_248 := own_Arr.other W240 Arr_239 (Ne.symm ne_aS_aM)
    have Arr_249 := own_Arr.other W240 A230 (Ne.symm ne_aS_aC)
    have N240 := Fr.snoc X240 N230 ge_aS
    have K240 := Keep.wr K230 W240 (Or.inl (by simp))
    refine own_aload X240 hx (pc' := 88) rfl (hb hby d_prog_64_method_4_code_86) rfl rfl ?_
    refine own_iload X240 hx (pc' := 90) rfl (hb hby d_prog_64_method_4_code_88) rfl ?_
    refine own_dup2 X240 hx (pc' := 91) rfl (hb hby d_prog_64_method_4_code_90) rfl rfl ?_
    refine own_ldD X240 hx hZ e240 Arr_248 (k := 1) (by decide) (by decide) (by omega) (v := (.double z1)) ez1 (pc' := 92) rfl (hb hby d_prog_64_method_4_code_91) ?_
    refine own_dload X240 hx (pc' := 94) rfl (hb hby d_prog_64_method_4_code_92) rfl ?_
    refine own_absD X240 hx hZ hown (hw _ (List.mem_of_getElem? (i := 52) rfl)) (hw _ (List.mem_of_getElem? (i := 31) rfl)) (hw _ (List.mem_of_getElem? (i := 32) rfl)) (hw _ (List.mem_of_getElem? (i := 33) rfl)) e240 (v := (FP.l2d (own_labs (wv 1)))) (own_nnI vI1) lb1.2.1 (by rw [hml]; rfl) (by decide) (W := 4) (Nat.le_of_eq rfl) (by decide) (by decide) (by decide) (pc' := 97) rfl (hb hby d_prog_64_method_4_code_94) ?_
    intro T250 X250 e250
    refine own_dadd X250 hx (v := (FP.dadd z1 (FP.l2d (own_labs (wv 1))))) (pc' := 98) rfl (hb hby d_prog_64_method_4_code_97) mm1.2 rfl ?_
    refine own_stD X250 hx hZ e250 Arr_248 (k := 1) (by decide) (by decide) (by omega) (pc' := 99) rfl (hb hby d_prog_64_method_4_code_98) ?_
    intro T251 h251 X251 e251 W251 A251
    have Siz_252 := own_sizWr W251 Siz_241
    have Exa_253 := Exa.wr W251 Exa_242
    have Fld_254 := Fld.other W251 Fld_243 (Or.inl ne_a1_aM)
    have Fld_255 := Fld.other W251 Fld_244 (Or.inl ne_a1_aM)
    have Fld_256 := Fld.other W251 Fld_245 (Or.inl ne_a1_aM)
    have Arr_257 := own_Arr.other W251 Arr_246 ne_aV_aM
    have Arr_259 := own_Arr.other W251 Arr_249 ne_aC_aM
    have Arr_260 := own_Arr.other W251 A240 ne_aS_aM
    have N251 := Fr.snoc X251 N240 ge_aM
    have K251 := Keep.wr K240 W251 (Or.inl (by simp))
    refine own_iinc X251 hx (v := (2 : Int32)) (Ls' := #[.val (.ref a1), .val (.ref aV), .val (.int (4 : Int32)), .val (.ref aS), .val (.ref aC), .val (.ref aM), .val (.int (2 : Int32)), .val (.double x1), .second, .val (.double (FP.l2d (wv 1))), .second, .val (.double (FP.dadd x1 (FP.l2d (wv 1)))), .second]) (pc' := 102) rfl (hb hby d_prog_64_method_4_code_99) rfl (by decide) rfl ?_
    refine own_goto X251 hx (pc' := 38) (hb hby d_prog_64_method_4_code_102) (by decide) (by decide) ?_
    refine own_iload X251 hx (pc' := 40) rfl (hb hby d_prog_64_method_4_code_38) rfl ?_
    refine own_iloadN X251 hx (pc' := 41) rfl (hb hby d_prog_64_method_4_code_40) rfl ?_
    refine own_icmpF X251 hx (pc' := 44) rfl (hb hby d_prog_64_method_4_code_41) (XT.ii_ge_f (by decide)) ?_
    refine own_aloadN X251 hx (pc' := 45) rfl (hb hby d_prog_64_method_4_code_44) rfl rfl ?_
    refine own_iload X251 hx (pc' := 47) rfl (hb hby d_prog_64_method_4_code_45) rfl ?_
    refine own_ldD X251 hx hZ e251 Arr_260 (k := 2) (by decide) (by decide) (by omega) (v := (.double x2)) ex2 (pc' := 48) rfl (hb hby d_prog_64_method_4_code_47) ?_
    refine own_dstore X251 hx (Ls' := #[.val (.ref a1), .val (.ref aV), .val (.int (4 : Int32)), .val (.ref aS), .val (.ref aC), .val (.ref aM), .val (.int (2 : Int32)), .val (.double x2), .second, .val (.double (FP.l2d (wv 1))), .second, .val (.double (FP.dadd x1 (FP.l2d (wv 1)))), .second]) (pc' := 50) rfl (hb hby d_prog_64_method_4_code_48) rfl ?_
    refine own_aloadN X251 hx (pc' := 51) rfl (hb hby d_prog_64_method_4_code_50) rfl rfl ?_
    refine own_iload X251 hx (pc' := 53) rfl (hb hby d_prog_64_method_4_code_51) rfl ?_
    refine own_ldD X251 hx hZ e251 Arr_257 (k := 2) (by decide) (by decide) (by decide) (v := (.double (FP.l2d (wv 2)))) ev2 (pc' := 54) rfl (hb hby d_prog_64_method_4_code_53) ?_
    refine own_dstore X251 hx (Ls' := #[.val (.ref a1), .val (.ref aV), .val (.int (4 : Int32)), .val (.ref aS), .val (.ref aC), .val (.ref aM), .val (.int (2 : Int32)), .val (.double x2), .second, .val (.double (FP.l2d (wv 2))), .second, .val (.double (FP.dadd x1 (FP.l2d (wv 1)))), .second]) (pc' := 56) rfl (hb hby d_prog_64_method_4_code_54) rfl ?_
    refine own_dload X251 hx (pc' := 58) rfl (hb hby d_prog_64_method_4_code_56) rfl ?_
    refine own_dload X251 hx (pc' := 60) rfl (hb hby d_prog_64_method_4_code_58) rfl ?_
    refine own_dadd X251 hx (v := (FP.dadd x2 (FP.l2d (wv 2)))) (pc' := 61) rfl (hb hby d_prog_64_method_4_code_60) ss2.2 rfl ?_
    refine own_dstore X251 hx (Ls' := #[.val (.ref a1), .val (.ref aV), .val (.int (4 : Int32)), .val (.ref aS), .val (.ref aC), .val (.ref aM), .val (.int (2 : Int32)), .val (.double x2), .second, .val (.double (FP.l2d (wv 2))), .second, .val (.double (FP.dadd x2 (FP.l2d (wv 2)))), .second]) (pc' := 63) rfl (hb hby d_prog_64_method_4_code_61) rfl ?_
    refine own_aload X251 hx (pc' := 65) rfl (hb hby d_prog_64_method_4_code_63) rfl rfl ?_
    refine own_iload X251 hx (pc' := 67) rfl (hb hby d_prog_64_method_4_code_65) rfl ?_
    refine own_dup2 X251 hx (pc' := 68) rfl (hb hby d_prog_64_method_4_code_67) rfl rfl ?_
    refine own_ldD X251 hx hZ e251 Arr_259 (k := 2) (by decide) (by decide) (by omega) (v := (.double y2)) ey2 (pc' := 69) rfl (hb hby d_prog_64_method_4_code_68) ?_
    refine own_dload X251 hx (pc' := 71) rfl (hb hby d_prog_64_method_4_code_69) rfl ?_
    refine own_dload X251 hx (pc' := 73) rfl (hb hby d_prog_64_method_4_code_71) rfl ?_
    refine own_dload X251 hx (pc' := 75) rfl (hb hby d_prog_64_method_4_code_73) rfl ?_
    refine own_callS X251 hx hZ (y := (⟨"com/example/ferrule/ferrule/matrix/CompensatedSum", "errorWithoutBranch", "(DDD)D"⟩ : MethodName)) hown (hw _ (List.mem_of_getElem? (i := 49) rfl)) (hw _ (List.mem_of_getElem? (i := 50) rfl)) (hw _ (List.mem_of_getElem? (i := 28) rfl)) (hw _ (List.mem_of_getElem? (i := 51) rfl))  (by decide) (rm_errW l Z a0 hw [] u2 (wv 2).toInt x2 (FP.l2d (wv 2)) (FP.dadd x2 (FP.l2d (wv 2))) h251 n0 Siz_252 dx2 vI2 ss2.1 ⟨by omega, by omega⟩) (by decide) (W := 4) (by decide) (by decide) (by decide) e251 (by rw [hml]; rfl) (argsL := [(.double x2), (.double (FP.l2d (wv 2))), (.double (FP.dadd x2 (FP.l2d (wv 2))))]) (rest := [(.double y2), (.int (2 : Int32)), (.ref aC)]) rfl (lenOf pd__DDD_D rfl) rfl (Nat.le_of_eq rfl) (pc' := 78) rfl (hb hby d_prog_64_method_4_code_75) ?_
    rintro _ T261 L261 X261 ⟨r261, rfl, hr261, N261, e261⟩
    have M261 := Fr.app N251 N261
    show own_Goes p e below T261 (mkF m 78 #[.val (.ref a1), .val (.ref aV), .val (.int (4 : Int32)), .val (.ref aS), .val (.ref aC), .val (.ref aM), .val (.int (2 : Int32)), .val (.double x2), .second, .val (.double (FP.l2d (wv 2))), .second, .val (.double (FP.dadd x2 (FP.l2d (wv 2)))), .second] [(.double r261), (.double y2), (.int (2 : Int32)), (.ref aC)]) _
    refine own_dadd X261 hx (v := (FP.dadd y2 r261)) (pc' := 79) rfl (hb hby d_prog_64_method_4_code_78) (own_addI dy2 hr261 (k := 0) (by omega) (by decide)).2 rfl ?_
    refine own_stD X261 hx hZ e261 Arr_259 (k := 2) (by decide) (by decide) (by omega) (pc' := 80) rfl (hb hby d_prog_64_method_4_code_79) ?_
    intro T262 h262 X262 e262 W262 A262
    have Siz_263 := own_sizWr W262 Siz_252
    have Exa_264 := Exa.wr W262 Exa_253
    have Fld_265 := Fld.other W262 Fld_254 (Or.inl ne_a1_aC)
    have Fld_266 := Fld.other W262 Fld_255 (Or.inl ne_a1_aC)
    have Fld_267 := Fld.other W262 Fld_256 (Or.inl ne_a1_aC)
    have Arr_268 := own_Arr.other W262 Arr_257 ne_aV_aC
    have Arr_270 := own_Arr.other W262 Arr_260 ne_aS_aC
    have Arr_271 := own_Arr.other W262 A251 (Ne.symm ne_aC_aM)
    have N262 := Fr.snoc X262 M261 ge_aC
    have K262 := Keep.wr K251 W262 (Or.inl (by simp))
    refine own_aloadN X262 hx (pc' := 81) rfl (hb hby d_prog_64_method_4_code_80) rfl rfl ?_
    refine own_iload X262 hx (pc' := 83) rfl (hb hby d_prog_64_method_4_code_81) rfl ?_
    refine own_dload X262 hx (pc' := 85) rfl (hb hby d_prog_64_method_4_code_83) rfl ?_
    refine own_stD X262 hx hZ e262 Arr_270 (k := 2) (by decide) (by decide) (by omega) (pc' := 86) rfl (hb hby d_prog_64_method_4_code_85) ?_
    intro T272 h272 X272 e272 W272 A272
    have Siz_273 := own_sizWr W272 Siz_263
    have Exa_274 := Exa.wr W272 Exa_264
    have Fld_275 := Fld.other W272 Fld_265 (Or.inl ne_a1_aS)
    have Fld_276 := Fld.other W272 Fld_266 (Or.inl ne_a1_aS)
    have Fld_277 := Fld.other W272 Fld_267 (Or.inl ne_a1_aS)
    have Arr_278 := own_Arr.other W272 Arr_268 ne_aV_aS
    have Arr_280 := own_Arr.other W272 Arr_271 (Ne.symm ne_aS_aM)
    have Arr_281 := own_Arr.other W272 A262 (Ne.symm ne_aS_aC)
    have N272 := Fr.snoc X272 N262 ge_aS
    have K272 := Keep.wr K262 W272 (Or.inl (by simp))
    refine own_aload X272 hx (pc' := 88) rfl (hb hby d_prog_64_method_4_code_86) rfl rfl ?_
    refine own_iload X272 hx (pc' := 90) rfl (hb hby d_prog_64_method_4_code_88) rfl ?_
    refine own_dup2 X272 hx (pc' := 91) rfl (hb hby d_prog_64_method_4_code_90) rfl rfl ?_
    refine own_ldD X272 hx hZ e272 Arr_280 (k := 2) (by decide) (by decide) (by omega) (v := (.double z2)) ez2 (pc' := 92) rfl (hb hby d_prog_64_method_4_code_91) ?_
    refine own_dload X272 hx (pc' := 94) rfl (hb hby d_prog_64_method_4_code_92) rfl ?_
    refine own_absD X272 hx hZ hown (hw _ (List.mem_of_getElem? (i := 52) rfl)) (hw _ (List.mem_of_getElem? (i := 31) rfl)) (hw _ (List.mem_of_getElem? (i := 32) rfl)) (hw _ (List.mem_of_getElem? (i := 33) rfl)) e272 (v := (FP.l2d (own_labs (wv 2)))) (own_nnI vI2) lb2.2.1 (by rw [hml]; rfl) (by decide) (W := 4) (Nat.le_of_eq rfl) (by decide) (by decide) (by decide) (pc' := 97) rfl (hb hby d_prog_64_method_4_code_94) ?_
    intro T282 X282 e282
    refine own_dadd X282 hx (v := (FP.dadd z2 (FP.l2d (own_labs (wv 2))))) (pc' := 98) rfl (hb hby d_prog_64_method_4_code_97) mm2.2 rfl ?_
    refine own_stD X282 hx hZ e282 Arr_280 (k := 2) (by decide) (by decide) (by omega) (pc' := 99) rfl (hb hby d_prog_64_method_4_code_98) ?_
    intro T283 h283 X283 e283 W283 A283
    have Siz_284 := own_sizWr W283 Siz_273
    have Exa_285 := Exa.wr W283 Exa_274
    have Fld_286 := Fld.other W283 Fld_275 (Or.inl ne_a1_aM)
    have Fld_287 := Fld.other W283 Fld_276 (Or.inl ne_a1_aM)
    have Fld_288 := Fld.other W283 Fld_277 (Or.inl ne_a1_aM)
    have Arr_289 := own_Arr.other W283 Arr_278 ne_aV_aM
    have Arr_291 := own_Arr.other W283 Arr_281 ne_aC_aM
    have Arr_292 := own_Arr.other W283 A272 ne_aS_aM
    have N283 := Fr.snoc X283 N272 ge_aM
    have K283 := Keep.wr K272 W283 (Or.inl (by simp))
    refine own_iinc X283 hx (v := (3 : Int32)) (Ls' := #[.val (.ref a1), .val (.ref aV), .val (.int (4 : Int32)), .val (.ref aS), .val (.ref aC), .val (.ref aM), .val (.int (3 : Int32)), .val (.double x2), .second, .val (.double (FP.l2d (wv 2))), .second, .val (.double (FP.dadd x2 (FP.l2d (wv 2)))), .second]) (pc' := 102) rfl (hb hby d_prog_64_method_4_code_99) rfl (by decide) rfl ?_
    refine own_goto X283 hx (pc' := 38) (hb hby d_prog_64_method_4_code_102) (by decide) (by decide) ?_
    refine own_iload X283 hx (pc' := 40) rfl (hb hby d_prog_64_method_4_code_38) rfl ?_
    refine own_iloadN X283 hx (pc' := 41) rfl (hb hby d_prog_64_method_4_code_40) rfl ?_
    refine own_icmpF X283 hx (pc' := 44) rfl (hb hby d_prog_64_method_4_code_41) (XT.ii_ge_f (by decide)) ?_
    refine own_aloadN X283 hx (pc' := 45) rfl (hb hby d_prog_64_method_4_code_44) rfl rfl ?_
    refine own_iload X283 hx (pc' := 47) rfl (hb hby d_prog_64_method_4_code_45) rfl ?_
    refine own_ldD X283 hx hZ e283 Arr_292 (k := 3) (by decide) (by decide) (by omega) (v := (.double x3)) ex3 (pc' := 48) rfl (hb hby d_prog_64_method_4_code_47) ?_
    refine own_dstore X283 hx (Ls' := #[.val (.ref a1), .val (.ref aV), .val (.int (4 : Int32)), .val (.ref aS), .val (.ref aC), .val (.ref aM), .val (.int (3 : Int32)), .val (.double x3), .second, .val (.double (FP.l2d (wv 2))), .second, .val (.double (FP.dadd x2 (FP.l2d (wv 2)))), .second]) (pc' := 50) rfl (hb hby d_prog_64_method_4_code_48) rfl ?_
    refine own_aloadN X283 hx (pc' := 51) rfl (hb hby d_prog_64_method_4_code_50) rfl rfl ?_
    refine own_iload X283 hx (pc' := 53) rfl (hb hby d_prog_64_method_4_code_51) rfl ?_
    refine own_ldD X283 hx hZ e283 Arr_289 (k := 3) (by decide) (by decide) (by decide) (v := (.double (FP.l2d (wv 3)))) ev3 (pc' := 54) rfl (hb hby d_prog_64_method_4_code_53) ?_
    refine own_dstore X283 hx (Ls' := #[.val (.ref a1), .val (.ref aV), .val (.int (4 : Int32)), .val (.ref aS), .val (.ref aC), .val (.ref aM), .val (.int (3 : Int32)), .val (.double x3), .second, .val (.double (FP.l2d (wv 3))), .second, .val (.double (FP.dadd x2 (FP.l2d (wv 2)))), .second]) (pc' := 56) rfl (hb hby d_prog_64_method_4_code_54) rfl ?_
    refine own_dload X283 hx (pc' := 58) rfl (hb hby d_prog_64_method_4_code_56) rfl ?_
    refine own_dload X283 hx (pc' := 60) rfl (hb hby d_prog_64_method_4_code_58) rfl ?_
    refine own_dadd X283 hx (v := (FP.dadd x3 (FP.l2d (wv 3)))) (pc' := 61) rfl (hb hby d_prog_64_method_4_code_60) ss3.2 rfl ?_
    refine own_dstore X283 hx (Ls' := #[.val (.ref a1), .val (.ref aV), .val (.int (4 : Int32)), .val (.ref aS), .val (.ref aC), .val (.ref aM), .val (.int (3 : Int32)), .val (.double x3), .second, .val (.double (FP.l2d (wv 3))), .second, .val (.double (FP.dadd x3 (FP.l2d (wv 3)))), .second]) (pc' := 63) rfl (hb hby d_prog_64_method_4_code_61) rfl ?_
    refine own_aload X283 hx (pc' := 65) rfl (hb hby d_prog_64_method_4_code_63) rfl rfl ?_
    refine own_iload X283 hx (pc' := 67) rfl (hb hby d_prog_64_method_4_code_65) rfl ?_
    refine own_dup2 X283 hx (pc' := 68) rfl (hb hby d_prog_64_method_4_code_67) rfl rfl ?_
    refine own_ldD X283 hx hZ e283 Arr_291 (k := 3) (by decide) (by decide) (by omega) (v := (.double y3)) ey3 (pc' := 69) rfl (hb hby d_prog_64_method_4_code_68) ?_
    refine own_dload X283 hx (pc' := 71) rfl (hb hby d_prog_64_method_4_code_69) rfl ?_
    refine own_dload X283 hx (pc' := 73) rfl (hb hby d_prog_64_method_4_code_71) rfl ?_
    refine own_dload X283 hx (pc' := 75) rfl (hb hby d_prog_64_method_4_code_73) rfl ?_
    refine own_callS X283 hx hZ (y := (⟨"com/example/ferrule/ferrule/matrix/CompensatedSum", "errorWithoutBranch", "(DDD)D"⟩ : MethodName)) hown (hw _ (List.mem_of_getElem? (i := 49) rfl)) (hw _ (List.mem_of_getElem? (i := 50) rfl)) (hw _ (List.mem_of_getElem? (i := 28) rfl)) (hw _ (List.mem_of_getElem? (i := 51) rfl))  (by decide) (rm_errW l Z a0 hw [] u3 (wv 3).toInt x3 (FP.l2d (wv 3)) (FP.dadd x3 (FP.l2d (wv 3))) h283 n0 Siz_284 dx3 vI3 ss3.1 ⟨by omega, by omega⟩) (by decide) (W := 4) (by decide) (by decide) (by decide) e283 (by rw [hml]; rfl) (argsL := [(.double x3), (.double (FP.l2d (wv 3))), (.double (FP.dadd x3 (FP.l2d (wv 3))))]) (rest := [(.double y3), (.int (3 : Int32)), (.ref aC)]) rfl (lenOf pd__DDD_D rfl) rfl (Nat.le_of_eq rfl) (pc' := 78) rfl (hb hby d_prog_64_method_4_code_75) ?_
    rintro _ T293 L293 X293 ⟨r293, rfl, hr293, N293, e293⟩
    have M293 := Fr.app N283 N293
    show own_Goes p e below T293 (mkF m 78 #[.val (.ref a1), .val (.ref aV), .val (.int (4 : Int32)), .val (.ref aS), .val (.ref aC), .val (.ref aM), .val (.int (3 : Int32)), .val (.double x3), .second, .val (.double (FP.l2d (wv 3))), .second, .val (.double (FP.dadd x3 (FP.l2d (wv 3)))), .second] [(.double r293), (.double y3), (.int (3 : Int32)), (.ref aC)]) _
    refine own_dadd X293 hx (v := (FP.dadd y3 r293)) (pc' := 79) rfl (hb hby d_prog_64_method_4_code_78) (own_addI dy3 hr293 (k := 0) (by omega) (by decide)).2 rfl ?_
    refine own_stD X293 hx hZ e293 Arr_291 (k := 3) (by decide) (by decide) (by omega) (pc' := 80) rfl (hb hby d_prog_64_method_4_code_79) ?_
    intro T294 h294 X294 e294 W294 A294
    have Siz_295 := own_sizWr W294 Siz_284
    have Exa_296 := Exa.wr W294 Exa_285
    have Fld_297 := Fld.other W294 Fld_286 (Or.inl ne_a1_aC)
    have Fld_298 := Fld.other W294 Fld_287 (Or.inl ne_a1_aC)
    have Fld_299 := Fld.other W294 Fld_288 (Or.inl ne_a1_aC)
    have Arr_300 := own_Arr.other W294 Arr_289 ne_aV_aC
    have Arr_302 := own_Arr.other W294 Arr_292 ne_aS_aC
    have Arr_303 := own_Arr.other W294 A283 (Ne.symm ne_aC_aM)
    have N294 := Fr.snoc X294 M293 ge_aC
    have K294 := Keep.wr K283 W294 (Or.inl (by simp))
    refine own_aloadN X294 hx (pc' := 81) rfl (hb hby d_prog_64_method_4_code_80) rfl rfl ?_
    refine own_iload X294 hx (pc' := 83) rfl (hb hby d_prog_64_method_4_code_81) rfl ?_
    refine own_dload X294 hx (pc' := 85) rfl (hb hby d_prog_64_method_4_code_83) rfl ?_
    refine own_stD X294 hx hZ e294 Arr_302 (k := 3) (by decide) (by decide) (by omega) (pc' := 86) rfl (hb hby d_prog_64_method_4_code_85) ?_
    intro T304 h304 X304 e304 W304 A304
    have Siz_305 := own_sizWr W304 Siz_295
    have Exa_306 := Exa.wr W304 Exa_296
    have Fld_307 := Fld.other W304 Fld_297 (Or.inl ne_a1_aS)
    have Fld_308 := Fld.other W304 Fld_298 (Or.inl ne_a1_aS)
    have Fld_309 := Fld.other W304 Fld_299 (Or.inl ne_a1_aS)
    have Arr_310 := own_Arr.other W304 Arr_300 ne_aV_aS
    have Arr_312 := own_Arr.other W304 Arr_303 (Ne.symm ne_aS_aM)
    have Arr_313 := own_Arr.other W304 A294 (Ne.symm ne_aS_aC)
    have N304 := Fr.snoc X304 N294 ge_aS
    have K304 := Keep.wr K294 W304 (Or.inl (by simp))
    refine own_aload X304 hx (pc' := 88) rfl (hb hby d_prog_64_method_4_code_86) rfl rfl ?_
    refine own_iload X304 hx (pc' := 90) rfl (hb hby d_prog_64_method_4_code_88) rfl ?_
    refine own_dup2 X304 hx (pc' := 91) rfl (hb hby d_prog_64_method_4_code_90) rfl rfl ?_
    refine own_ldD X304 hx hZ e304 Arr_312 (k := 3) (by decide) (by decide) (by omega) (v := (.double z3)) ez3 (pc' := 92) rfl (hb hby d_prog_64_method_4_code_91) ?_
    refine own_dload X304 hx (pc' := 94) rfl (hb hby d_prog_64_method_4_code_92) rfl ?_
    refine own_absD X304 hx hZ hown (hw _ (List.mem_of_getElem? (i := 52) rfl)) (hw _ (List.mem_of_getElem? (i := 31) rfl)) (hw _ (List.mem_of_getElem? (i := 32) rfl)) (hw _ (List.mem_of_getElem? (i := 33) rfl)) e304 (v := (FP.l2d (own_labs (wv 3)))) (own_nnI vI3) lb3.2.1 (by rw [hml]; rfl) (by decide) (W := 4) (Nat.le_of_eq rfl) (by decide) (by decide) (by decide) (pc' := 97) rfl (hb hby d_prog_64_method_4_code_94) ?_
    intro T314 X314 e314
    refine own_dadd X314 hx (v := (FP.dadd z3 (FP.l2d (own_labs (wv 3))))) (pc' := 98) rfl (hb hby d_prog_64_method_4_code_97) mm3.2 rfl ?_
    refine own_stD X314 hx hZ e314 Arr_312 (k := 3) (by decide) (by decide) (by omega) (pc' := 99) rfl (hb hby d_prog_64_method_4_code_98) ?_
    intro T315 h315 X315 e315 W315 A315
    have Siz_316 := own_sizWr W315 Siz_305
    have Exa_317 := Exa.wr W315 Exa_306
    have Fld_318 := Fld.other W315 Fld_307 (Or.inl ne_a1_aM)
    have Fld_319 := Fld.other W315 Fld_308 (Or.inl ne_a1_aM)
    have Fld_320 := Fld.other W315 Fld_309 (Or.inl ne_a1_aM)
    have Arr_321 := own_Arr.other W315 Arr_310 ne_aV_aM
    have Arr_323 := own_Arr.other W315 Arr_313 ne_aC_aM
    have Arr_324 := own_Arr.other W315 A304 ne_aS_aM
    have N315 := Fr.snoc X315 N304 ge_aM
    have K315 := Keep.wr K304 W315 (Or.inl (by simp))
    refine own_iinc X315 hx (v := (4 : Int32)) (Ls' := #[.val (.ref a1), .val (.ref aV), .val (.int (4 : Int32)), .val (.ref aS), .val (.ref aC), .val (.ref aM), .val (.int (4 : Int32)), .val (.double x3), .second, .val (.double (FP.l2d (wv 3))), .second, .val (.double (FP.dadd x3 (FP.l2d (wv 3)))), .second]) (pc' := 102) rfl (hb hby d_prog_64_method_4_code_99) rfl (by decide) rfl ?_
    refine own_goto X315 hx (pc' := 38) (hb hby d_prog_64_method_4_code_102) (by decide) (by decide) ?_
    refine own_iload X315 hx (pc' := 40) rfl (hb hby d_prog_64_method_4_code_38) rfl ?_
    refine own_iloadN X315 hx (pc' := 41) rfl (hb hby d_prog_64_method_4_code_40) rfl ?_
    refine own_icmpT X315 hx (pc' := 105) (hb hby d_prog_64_method_4_code_41) (XT.ii_ge_t (by decide)) (by decide) (by decide) ?_
    refine own_ret X315 hx hlk hret (hb hby d_prog_64_method_4_code_105) (by decide) (by decide) ?_
    rw [e315]
    exact ⟨rfl, N315, K315, _, _, _, Arr_324, (own_DB.upd (own_DB.upd (own_DB.upd (own_DB.upd (hS.mono (by omega)) 0 ss0.1 (by omega)) 1 ss1.1 (by omega)) 2 ss2.1 (by omega)) 3 ss3.1 (by omega)), Arr_323, (own_DB.upd (own_DB.upd (own_DB.upd (own_DB.upd hC 0 (own_addI dy0 hr197 (k := 0) (by omega) (by decide)).1 (by decide)) 1 (own_addI dy1 hr229 (k := 0) (by omega) (by decide)).1 (by decide)) 2 (own_addI dy2 hr261 (k := 0) (by omega) (by decide)).1 (by decide)) 3 (own_addI dy3 hr293 (k := 0) (by omega) (by decide)).1 (by decide)), A315, (own_DA.congr (own_DA.upd (own_DA.upd (own_DA.upd (own_DA.upd hD 0 mm0.1) 1 mm1.1) 2 mm2.1) 3 mm3.1) (by intro j; rcases j with _ | _ | _ | _ | j <;> first | (simp [own_updG, own_addG]; done) | (simp [own_updG, own_addG]; intro hh; omega)))⟩
theorem ef_rm_law (m : MethodId) (p1 : Int32) (p2 : Int32) (p3 : Int32) (p4 : Int32) (p5 : Int32) (p6 : Int32) : entryFrame m #[(.int p1), (.int p2), (.int p3), (.int p4), (.int p5), (.int p6)] maxLocals = mkF m 0 #[.val (.int p1), .val (.int p2), .val (.int p3), .val (.int p4), .val (.int p5), .val (.int p6), .unset, .unset, .unset, .unset, .unset, .unset, .unset, .unset, .unset, .unset, .unset, .unset, .unset, .unset] [] := by first | (simp [entryFrame, mkF, argsToLocals, Value.category, maxLocals]; done) | rfl
def K_rm_law  (Z : State) (h0 : Heap) (n0 : Nat) (p1 : Int32) (p2 : Int32) (p3 : Int32) (p4 : Int32) (p5 : Int32) (p6 : Int32) (v : Option Value) (h : Heap) (L : List Loc) : Prop := v = some (.int 1) ∧ Fr n0 L
theorem pd__I_V : parseMethodDescriptor "(I)V" = some ⟨[.int], none⟩ := by decide +kernel
theorem pd___D : parseMethodDescriptor "()D" = some ⟨[], some .double⟩ := by decide +kernel
theorem pd__IIIII_J : parseMethodDescriptor "(IIIII)J" = some ⟨[.int, .int, .int, .int, .int], some .long⟩ := by decide +kernel
theorem pd___DI_V : parseMethodDescriptor "([DI)V" = some ⟨[(.array .double), .int], none⟩ := by decide +kernel
theorem pd__ID_V : parseMethodDescriptor "(ID)V" = some ⟨[.int, .double], none⟩ := by decide +kernel
set_option maxRecDepth 65536 in
set_option maxHeartbeats 40000000 in
theorem rm_law (l : Launch) (Z : State) (a0 : Array Value) (hw : ∀ d ∈ tables_1, d.before a0 Z = true) (ws : List Jvm.Cond)  (p1 : Int32) (p2 : Int32) (p3 : Int32) (p4 : Int32) (p5 : Int32) (p6 : Int32) (h0 : Heap) (n0 : Nat) (Z0 : n0 ≤ h0.size) :
    MetFree l x (head1 (Jvm.Cond.code x code maxLocals ret :: ws) room_1) (fun a U => a = #[(.int p1), (.int p2), (.int p3), (.int p4), (.int p5), (.int p6)] ∧ Z.Warmed39 U.vm ∧ U.heap = h0) (fun _ _ _ _ _ => True) (fun _ U o U' => ∃ v L, o = .returned v ∧ (K_rm_law  Z h0 n0 p1 p2 p3 p4 p5 p6) v U'.heap L ∧ FrameEnd U o U' L room_1.cells room_1.slots) := by
  refine own_body (plainFor_of_name pn_com_example_ferrule_ferrule_matrix_CompensatedSumsMagnitudePinLaw) ?_
  intro p e s m below meth c s₁ hx hby hml hown hnm hret hlk hZ X0 e0
  have hown : s.vm.findClass "com/example/ferrule/ferrule/matrix/CompensatedSumsMagnitudePinLaw" = some m.cls := hown
  have N0 := Fr.nil n0
  rw [ef_rm_law m p1 p2 p3 p4 p5 p6]
  refine own_iconst X0 hx (v := (1 : Int32)) (pc' := 1) rfl (hb hby at_0) rfl ?_
  refine own_iload X0 hx (pc' := 3) rfl (hb hby at_1) rfl ?_
  refine own_iconst X0 hx (v := (3 : Int32)) (pc' := 4) rfl (hb hby at_3) rfl ?_
  refine own_iand X0 hx (v := (p6 &&& (3 : Int32))) (pc' := 5) rfl (hb hby at_4) rfl ?_
  refine own_iadd X0 hx (v := ((1 : Int32) + (p6 &&& (3 : Int32)))) (pc' := 6) rfl (hb hby at_5) rfl ?_
  obtain ⟨n, hn0, hn⟩ := own_three p6
  generalize ((1 : Int32) + (p6 &&& (3 : Int32))) = nn at hn0 ⊢
  obtain ⟨hz0, hz1, hz2, hz4, hz5, hz6, hz7⟩ := own_nn3 hn0 hn
  refine own_istore X0 hx (Ls' := #[.val (.int p1), .val (.int p2), .val (.int p3), .val (.int p4), .val (.int p5), .val (.int p6), .val (.int nn), .unset, .unset, .unset, .unset, .unset, .unset, .unset, .unset, .unset, .unset, .unset, .unset, .unset]) (pc' := 8) rfl (hb hby at_6) rfl ?_
  suffices hj1 : own_Goes p e below s₁ (mkF m 24 #[.val (.int p1), .val (.int p2), .val (.int p3), .val (.int p4), .val (.int p5), .val (.int p6), .val (.int nn), .val (.int (own_fl ((XT.ushr p6 (2 : Int32)) &&& (1 : Int32)))), .unset, .unset, .unset, .unset, .unset, .unset, .unset, .unset, .unset, .unset, .unset, .unset] []) (own_Ret s (K_rm_law  Z h0 n0 p1 p2 p3 p4 p5 p6) room_1.cells room_1.slots) by
    refine own_iload X0 hx (pc' := 10) rfl (hb hby at_8) rfl ?_
    refine own_iconst X0 hx (v := (2 : Int32)) (pc' := 11) rfl (hb hby at_10) rfl ?_
    refine own_iushr X0 hx (v := (XT.ushr p6 (2 : Int32))) (pc' := 12) rfl (hb hby at_11) rfl ?_
    refine own_iconst X0 hx (v := (1 : Int32)) (pc' := 13) rfl (hb hby at_12) rfl ?_
    refine own_iand X0 hx (v := ((XT.ushr p6 (2 : Int32)) &&& (1 : Int32))) (pc' := 14) rfl (hb hby at_13) rfl ?_
    by_cases c14_2 : ((XT.ushr p6 (2 : Int32)) &&& (1 : Int32)) = 0
    · refine own_ifT X0 hx (pc' := 21) (hb hby at_14) (XT.i0_eq_t c14_2) (by decide) (by decide) ?_
      refine own_iconst X0 hx (v := (0 : Int32)) (pc' := 22) rfl (hb hby at_21) rfl ?_
      refine own_istore X0 hx (Ls' := #[.val (.int p1), .val (.int p2), .val (.int p3), .val (.int p4), .val (.int p5), .val (.int p6), .val (.int nn), .val (.int (0 : Int32)), .unset, .unset, .unset, .unset, .unset, .unset, .unset, .unset, .unset, .unset, .unset, .unset]) (pc' := 24) rfl (hb hby at_22) rfl ?_
      rw [show (own_fl ((XT.ushr p6 (2 : Int32)) &&& (1 : Int32))) = (0 : Int32) from by first | (simp only [own_fl, if_pos c14_2]; done) | (simp only [own_fl, if_pos c14_2]; rfl)] at hj1
      exact hj1
    · refine own_ifF X0 hx (pc' := 17) rfl (hb hby at_14) (XT.i0_eq_f c14_2) ?_
      refine own_iconst X0 hx (v := (1 : Int32)) (pc' := 18) rfl (hb hby at_17) rfl ?_
      refine own_goto X0 hx (pc' := 22) (hb hby at_18) (by decide) (by decide) ?_
      refine own_istore X0 hx (Ls' := #[.val (.int p1), .val (.int p2), .val (.int p3), .val (.int p4), .val (.int p5), .val (.int p6), .val (.int nn), .val (.int (1 : Int32)), .unset, .unset, .unset, .unset, .unset, .unset, .unset, .unset, .unset, .unset, .unset, .unset]) (pc' := 24) rfl (hb hby at_22) rfl ?_
      rw [show (own_fl ((XT.ushr p6 (2 : Int32)) &&& (1 : Int32))) = (1 : Int32) from by first | (simp only [own_fl, if_neg c14_2]; done) | (simp only [own_fl, if_neg c14_2]; rfl)] at hj1
      exact hj1
  generalize (own_fl ((XT.ushr p6 (2 : Int32)) &&& (1 : Int32))) = s1
  refine own_iload X0 hx (pc' := 26) rfl (hb hby at_24) rfl ?_
  refine own_iconst X0 hx (v := (3 : Int32)) (pc' := 27) rfl (hb hby at_26) rfl ?_
  refine own_iushr X0 hx (v := (XT.ushr p6 (3 : Int32))) (pc' := 28) rfl (hb hby at_27) rfl ?_
  refine own_iconst X0 hx (v := (3 : Int32)) (pc' := 29) rfl (hb hby at_28) rfl ?_
  refine own_iand X0 hx (v := ((XT.ushr p6 (3 : Int32)) &&& (3 : Int32))) (pc' := 30) rfl (hb hby at_29) rfl ?_
  refine own_iload X0 hx (pc' := 32) rfl (hb hby at_30) rfl ?_
  refine own_irem X0 hx (v := (((XT.ushr p6 (3 : Int32)) &&& (3 : Int32)) % nn)) (pc' := 33) rfl (hb hby at_32) hz5 rfl ?_
  obtain ⟨kk, hk0, hk1, hk2⟩ := own_kk (x := (XT.ushr p6 (3 : Int32))) hn0 hn
  generalize (((XT.ushr p6 (3 : Int32)) &&& (3 : Int32)) % nn) = kv at hk0 hk1 ⊢
  refine own_istore X0 hx (Ls' := #[.val (.int p1), .val (.int p2), .val (.int p3), .val (.int p4), .val (.int p5), .val (.int p6), .val (.int nn), .val (.int s1), .val (.int kv), .unset, .unset, .unset, .unset, .unset, .unset, .unset, .unset, .unset, .unset, .unset]) (pc' := 35) rfl (hb hby at_33) rfl ?_
  suffices hj3 : own_Goes p e below s₁ (mkF m 51 #[.val (.int p1), .val (.int p2), .val (.int p3), .val (.int p4), .val (.int p5), .val (.int p6), .val (.int nn), .val (.int s1), .val (.int kv), .val (.int (own_fl ((XT.ushr p6 (5 : Int32)) &&& (1 : Int32)))), .unset, .unset, .unset, .unset, .unset, .unset, .unset, .unset, .unset, .unset] []) (own_Ret s (K_rm_law  Z h0 n0 p1 p2 p3 p4 p5 p6) room_1.cells room_1.slots) by
    refine own_iload X0 hx (pc' := 37) rfl (hb hby at_35) rfl ?_
    refine own_iconst X0 hx (v := (5 : Int32)) (pc' := 38) rfl (hb hby at_37) rfl ?_
    refine own_iushr X0 hx (v := (XT.ushr p6 (5 : Int32))) (pc' := 39) rfl (hb hby at_38) rfl ?_
    refine own_iconst X0 hx (v := (1 : Int32)) (pc' := 40) rfl (hb hby at_39) rfl ?_
    refine own_iand X0 hx (v := ((XT.ushr p6 (5 : Int32)) &&& (1 : Int32))) (pc' := 41) rfl (hb hby at_40) rfl ?_
    by_cases c41_4 : ((XT.ushr p6 (5 : Int32)) &&& (1 : Int32)) = 0
    · refine own_ifT X0 hx (pc' := 48) (hb hby at_41) (XT.i0_eq_t c41_4) (by decide) (by decide) ?_
      refine own_iconst X0 hx (v := (0 : Int32)) (pc' := 49) rfl (hb hby at_48) rfl ?_
      refine own_istore X0 hx (Ls' := #[.val (.int p1), .val (.int p2), .val (.int p3), .val (.int p4), .val (.int p5), .val (.int p6), .val (.int nn), .val (.int s1), .val (.int kv), .val (.int (0 : Int32)), .unset, .unset, .unset, .unset, .unset, .unset, .unset, .unset, .unset, .unset]) (pc' := 51) rfl (hb hby at_49) rfl ?_
      rw [show (own_fl ((XT.ushr p6 (5 : Int32)) &&& (1 : Int32))) = (0 : Int32) from by first | (simp only [own_fl, if_pos c41_4]; done) | (simp only [own_fl, if_pos c41_4]; rfl)] at hj3
      exact hj3
    · refine own_ifF X0 hx (pc' := 44) rfl (hb hby at_41) (XT.i0_eq_f c41_4) ?_
      refine own_iconst X0 hx (v := (1 : Int32)) (pc' := 45) rfl (hb hby at_44) rfl ?_
      refine own_goto X0 hx (pc' := 49) (hb hby at_45) (by decide) (by decide) ?_
      refine own_istore X0 hx (Ls' := #[.val (.int p1), .val (.int p2), .val (.int p3), .val (.int p4), .val (.int p5), .val (.int p6), .val (.int nn), .val (.int s1), .val (.int kv), .val (.int (1 : Int32)), .unset, .unset, .unset, .unset, .unset, .unset, .unset, .unset, .unset, .unset]) (pc' := 51) rfl (hb hby at_49) rfl ?_
      rw [show (own_fl ((XT.ushr p6 (5 : Int32)) &&& (1 : Int32))) = (1 : Int32) from by first | (simp only [own_fl, if_neg c41_4]; done) | (simp only [own_fl, if_neg c41_4]; rfl)] at hj3
      exact hj3
  generalize (own_fl ((XT.ushr p6 (5 : Int32)) &&& (1 : Int32))) = s2
  refine own_iload X0 hx (pc' := 53) rfl (hb hby at_51) rfl ?_
  refine own_bipush X0 hx (v := (6 : Int32)) (pc' := 55) rfl (hb hby at_53) rfl ?_
  refine own_iushr X0 hx (v := (XT.ushr p6 (6 : Int32))) (pc' := 56) rfl (hb hby at_55) rfl ?_
  refine own_bipush X0 hx (v := (7 : Int32)) (pc' := 58) rfl (hb hby at_56) rfl ?_
  refine own_iand X0 hx (v := ((XT.ushr p6 (6 : Int32)) &&& (7 : Int32))) (pc' := 59) rfl (hb hby at_58) rfl ?_
  refine own_iload X0 hx (pc' := 61) rfl (hb hby at_59) rfl ?_
  refine own_iconst X0 hx (v := (1 : Int32)) (pc' := 62) rfl (hb hby at_61) rfl ?_
  refine own_iadd X0 hx (v := (nn + (1 : Int32))) (pc' := 63) rfl (hb hby at_62) rfl ?_
  refine own_irem X0 hx (v := (((XT.ushr p6 (6 : Int32)) &&& (7 : Int32)) % (nn + (1 : Int32)))) (pc' := 64) rfl (hb hby at_63) hz7 rfl ?_
  obtain ⟨cn1, hm1, hm1n⟩ := own_cc (x := (XT.ushr p6 (6 : Int32))) hz6 hz4
  generalize (((XT.ushr p6 (6 : Int32)) &&& (7 : Int32)) % (nn + (1 : Int32))) = cv1 at hm1 ⊢
  refine own_istore X0 hx (Ls' := #[.val (.int p1), .val (.int p2), .val (.int p3), .val (.int p4), .val (.int p5), .val (.int p6), .val (.int nn), .val (.int s1), .val (.int kv), .val (.int s2), .val (.int cv1), .unset, .unset, .unset, .unset, .unset, .unset, .unset, .unset, .unset]) (pc' := 66) rfl (hb hby at_64) rfl ?_
  suffices hj5 : own_Goes p e below s₁ (mkF m 83 #[.val (.int p1), .val (.int p2), .val (.int p3), .val (.int p4), .val (.int p5), .val (.int p6), .val (.int nn), .val (.int s1), .val (.int kv), .val (.int s2), .val (.int cv1), .val (.int (own_fl ((XT.ushr p6 (9 : Int32)) &&& (1 : Int32)))), .unset, .unset, .unset, .unset, .unset, .unset, .unset, .unset] []) (own_Ret s (K_rm_law  Z h0 n0 p1 p2 p3 p4 p5 p6) room_1.cells room_1.slots) by
    refine own_iload X0 hx (pc' := 68) rfl (hb hby at_66) rfl ?_
    refine own_bipush X0 hx (v := (9 : Int32)) (pc' := 70) rfl (hb hby at_68) rfl ?_
    refine own_iushr X0 hx (v := (XT.ushr p6 (9 : Int32))) (pc' := 71) rfl (hb hby at_70) rfl ?_
    refine own_iconst X0 hx (v := (1 : Int32)) (pc' := 72) rfl (hb hby at_71) rfl ?_
    refine own_iand X0 hx (v := ((XT.ushr p6 (9 : Int32)) &&& (1 : Int32))) (pc' := 73) rfl (hb hby at_72) rfl ?_
    by_cases c73_6 : ((XT.ushr p6 (9 : Int32)) &&& (1 : Int32)) = 0
    · refine own_ifT X0 hx (pc' := 80) (hb hby at_73) (XT.i0_eq_t c73_6) (by decide) (by decide) ?_
      refine own_iconst X0 hx (v := (0 : Int32)) (pc' := 81) rfl (hb hby at_80) rfl ?_
      refine own_istore X0 hx (Ls' := #[.val (.int p1), .val (.int p2), .val (.int p3), .val (.int p4), .val (.int p5), .val (.int p6), .val (.int nn), .val (.int s1), .val (.int kv), .val (.int s2), .val (.int cv1), .val (.int (0 : Int32)), .unset, .unset, .unset, .unset, .unset, .unset, .unset, .unset]) (pc' := 83) rfl (hb hby at_81) rfl ?_
      rw [show (own_fl ((XT.ushr p6 (9 : Int32)) &&& (1 : Int32))) = (0 : Int32) from by first | (simp only [own_fl, if_pos c73_6]; done) | (simp only [own_fl, if_pos c73_6]; rfl)] at hj5
      exact hj5
    · refine own_ifF X0 hx (pc' := 76) rfl (hb hby at_73) (XT.i0_eq_f c73_6) ?_
      refine own_iconst X0 hx (v := (1 : Int32)) (pc' := 77) rfl (hb hby at_76) rfl ?_
      refine own_goto X0 hx (pc' := 81) (hb hby at_77) (by decide) (by decide) ?_
      refine own_istore X0 hx (Ls' := #[.val (.int p1), .val (.int p2), .val (.int p3), .val (.int p4), .val (.int p5), .val (.int p6), .val (.int nn), .val (.int s1), .val (.int kv), .val (.int s2), .val (.int cv1), .val (.int (1 : Int32)), .unset, .unset, .unset, .unset, .unset, .unset, .unset, .unset]) (pc' := 83) rfl (hb hby at_81) rfl ?_
      rw [show (own_fl ((XT.ushr p6 (9 : Int32)) &&& (1 : Int32))) = (1 : Int32) from by first | (simp only [own_fl, if_neg c73_6]; done) | (simp only [own_fl, if_neg c73_6]; rfl)] at hj5
      exact hj5
  generalize (own_fl ((XT.ushr p6 (9 : Int32)) &&& (1 : Int32))) = s3
  refine own_iload X0 hx (pc' := 85) rfl (hb hby at_83) rfl ?_
  refine own_bipush X0 hx (v := (10 : Int32)) (pc' := 87) rfl (hb hby at_85) rfl ?_
  refine own_iushr X0 hx (v := (XT.ushr p6 (10 : Int32))) (pc' := 88) rfl (hb hby at_87) rfl ?_
  refine own_bipush X0 hx (v := (7 : Int32)) (pc' := 90) rfl (hb hby at_88) rfl ?_
  refine own_iand X0 hx (v := ((XT.ushr p6 (10 : Int32)) &&& (7 : Int32))) (pc' := 91) rfl (hb hby at_90) rfl ?_
  refine own_iload X0 hx (pc' := 93) rfl (hb hby at_91) rfl ?_
  refine own_iconst X0 hx (v := (1 : Int32)) (pc' := 94) rfl (hb hby at_93) rfl ?_
  refine own_iadd X0 hx (v := (nn + (1 : Int32))) (pc' := 95) rfl (hb hby at_94) rfl ?_
  refine own_irem X0 hx (v := (((XT.ushr p6 (10 : Int32)) &&& (7 : Int32)) % (nn + (1 : Int32)))) (pc' := 96) rfl (hb hby at_95) hz7 rfl ?_
  obtain ⟨cn2, hm2, hm2n⟩ := own_cc (x := (XT.ushr p6 (10 : Int32))) hz6 hz4
  generalize (((XT.ushr p6 (10 : Int32)) &&& (7 : Int32)) % (nn + (1 : Int32))) = cv2 at hm2 ⊢
  refine own_istore X0 hx (Ls' := #[.val (.int p1), .val (.int p2), .val (.int p3), .val (.int p4), .val (.int p5), .val (.int p6), .val (.int nn), .val (.int s1), .val (.int kv), .val (.int s2), .val (.int cv1), .val (.int s3), .val (.int cv2), .unset, .unset, .unset, .unset, .unset, .unset, .unset]) (pc' := 98) rfl (hb hby at_96) rfl ?_
  refine own_iconst X0 hx (v := (4 : Int32)) (pc' := 99) rfl (hb hby at_98) rfl ?_
  refine own_newarr X0 hx hZ (aty := .double) (hw _ (List.mem_of_getElem? (i := 0) rfl)) e0 (pc' := 101) rfl (hb hby at_99) (by decide) (N := 4) (by decide) (cap := 4) (by decide) (by decide) (by decide) (by decide) ?_
  intro T7 h7 X7 e7 E7 A7
  obtain ⟨o7, g7⟩ : ∃ z, z = h0.size := ⟨_, rfl⟩
  rw [← g7] at A7 ⊢
  have ge7 : n0 ≤ o7 := g7 ▸ Z0
  have Siz_8 := Nat.le_trans Z0 E7.1
  refine own_astore X7 hx (Ls' := #[.val (.int p1), .val (.int p2), .val (.int p3), .val (.int p4), .val (.int p5), .val (.int p6), .val (.int nn), .val (.int s1), .val (.int kv), .val (.int s2), .val (.int cv1), .val (.int s3), .val (.int cv2), .val (.ref o7), .unset, .unset, .unset, .unset, .unset, .unset]) (pc' := 103) rfl (hb hby at_101) rfl rfl ?_
  refine own_aload X7 hx (pc' := 105) rfl (hb hby at_103) rfl rfl ?_
  refine own_iconst X7 hx (v := (0 : Int32)) (pc' := 106) rfl (hb hby at_105) rfl ?_
  refine own_iloadN X7 hx (pc' := 107) rfl (hb hby at_106) rfl ?_
  refine own_i2d X7 hx (v := (FP.l2d p1.toInt64)) (pc' := 108) rfl (hb hby at_107) (i2d_w _) ?_
  refine own_stD X7 hx hZ e7 A7 (k := 0) (by decide) (by decide) (by decide) (pc' := 109) rfl (hb hby at_108) ?_
  intro T9 h9 X9 e9 W9 A9
  have Siz_10 := own_sizWr W9 Siz_8
  have N9 := Fr.snoc X9 N0 ge7
  refine own_aload X9 hx (pc' := 111) rfl (hb hby at_109) rfl rfl ?_
  refine own_iconst X9 hx (v := (1 : Int32)) (pc' := 112) rfl (hb hby at_111) rfl ?_
  refine own_iloadN X9 hx (pc' := 113) rfl (hb hby at_112) rfl ?_
  refine own_i2d X9 hx (v := (FP.l2d p2.toInt64)) (pc' := 114) rfl (hb hby at_113) (i2d_w _) ?_
  refine own_stD X9 hx hZ e9 A9 (k := 1) (by decide) (by decide) (by decide) (pc' := 115) rfl (hb hby at_114) ?_
  intro T12 h12 X12 e12 W12 A12
  have Siz_13 := own_sizWr W12 Siz_10
  have N12 := Fr.snoc X12 N9 ge7
  refine own_aload X12 hx (pc' := 117) rfl (hb hby at_115) rfl rfl ?_
  refine own_iconst X12 hx (v := (2 : Int32)) (pc' := 118) rfl (hb hby at_117) rfl ?_
  refine own_iloadN X12 hx (pc' := 119) rfl (hb hby at_118) rfl ?_
  refine own_i2d X12 hx (v := (FP.l2d p3.toInt64)) (pc' := 120) rfl (hb hby at_119) (i2d_w _) ?_
  refine own_stD X12 hx hZ e12 A12 (k := 2) (by decide) (by decide) (by decide) (pc' := 121) rfl (hb hby at_120) ?_
  intro T15 h15 X15 e15 W15 A15
  have Siz_16 := own_sizWr W15 Siz_13
  have N15 := Fr.snoc X15 N12 ge7
  refine own_aload X15 hx (pc' := 123) rfl (hb hby at_121) rfl rfl ?_
  refine own_iconst X15 hx (v := (3 : Int32)) (pc' := 124) rfl (hb hby at_123) rfl ?_
  refine own_iloadN X15 hx (pc' := 125) rfl (hb hby at_124) rfl ?_
  refine own_i2d X15 hx (v := (FP.l2d p4.toInt64)) (pc' := 126) rfl (hb hby at_125) (i2d_w _) ?_
  refine own_stD X15 hx hZ e15 A15 (k := 3) (by decide) (by decide) (by decide) (pc' := 127) rfl (hb hby at_126) ?_
  intro T18 h18 X18 e18 W18 A18
  have Siz_19 := own_sizWr W18 Siz_16
  have N18 := Fr.snoc X18 N15 ge7
  have hV : own_DV (own_upd (own_upd (own_upd (own_upd (fun _ => (.double (0 : UInt64))) 0 (.double (FP.l2d p1.toInt64))) 1 (.double (FP.l2d p2.toInt64))) 2 (.double (FP.l2d p3.toInt64))) 3 (.double (FP.l2d p4.toInt64))) (own_w4 p1 p2 p3 p4) := fun j hj => ⟨by rcases j with _ | _ | _ | _ | j; rfl; rfl; rfl; rfl; omega, own_w4B p1 p2 p3 p4 j hj⟩
  refine own_new X18 hx hZ hown (hw _ (List.mem_of_getElem? (i := 1) rfl)) (hw _ (List.mem_of_getElem? (i := 2) rfl)) (hw _ (List.mem_of_getElem? (i := 3) rfl)) e18 (pc' := 130) rfl (hb hby at_127) (by decide) (by decide) ?_
  intro T21 h21 X21 e21 E21 A21 D21
  obtain ⟨o21, g21⟩ : ∃ z, z = h18.size := ⟨_, rfl⟩
  rw [← g21] at A21 D21 ⊢
  have ne21_o7 : o7 ≠ o21 := Nat.ne_of_lt (g21 ▸ (own_Arr.lt A18))
  have ge21 : n0 ≤ o21 := g21 ▸ Siz_19
  have Siz_22 := Nat.le_trans Siz_19 E21.1
  have Arr_23 := own_Arr.ext E21 A18
  have F24 : Fld Z h21 o21 "com/example/ferrule/ferrule/matrix/CompensatedSums" "sums" "[D" .null := D21 (Or.inr (hw _ (List.mem_of_getElem? (i := 11) rfl))) (ty := (.array .double)) (by decide)
  have F25 : Fld Z h21 o21 "com/example/ferrule/ferrule/matrix/CompensatedSums" "compensations" "[D" .null := D21 (Or.inr (hw _ (List.mem_of_getElem? (i := 13) rfl))) (ty := (.array .double)) (by decide)
  have F26 : Fld Z h21 o21 "com/example/ferrule/ferrule/matrix/CompensatedSums" "magnitudes" "[D" .null := D21 (Or.inl (hw _ (List.mem_of_getElem? (i := 20) rfl))) (ty := (.array .double)) (by decide)
  refine own_dup X21 hx (pc' := 131) rfl (hb hby at_130) rfl ?_
  refine own_iload X21 hx (pc' := 133) rfl (hb hby at_131) rfl ?_
  refine own_callC X21 hx hZ (y := (⟨"com/example/ferrule/ferrule/matrix/CompensatedSums", "<init>", "(I)V"⟩ : MethodName)) rfl hown (hw _ (List.mem_of_getElem? (i := 4) rfl)) (hw _ (List.mem_of_getElem? (i := 5) rfl)) (hw _ (List.mem_of_getElem? (i := 3) rfl)) (hw _ (List.mem_of_getElem? (i := 6) rfl))  (by decide) (rm_ctor l Z a0 hw [] n o21 nn h21 n0 Siz_22 A21 F24 F25 F26 ge21 hz0 hz1 hz4) (by decide) (W := 1) (by decide) (by decide) (by decide) e21 (by rw [hml]; rfl) (argsL := [(.int nn)]) (rest := [(.ref o21)]) rfl (lenOf pd__I_V rfl) rfl (Nat.le_of_eq rfl) (pc' := 136) rfl (hb hby at_133) ?_
  rintro _ T27 L27 X27 ⟨rfl, N27, K27, B27⟩
  have M27 := Fr.app N18 N27
  obtain ⟨h27, e27⟩ : ∃ z, T27.heap = z := ⟨_, rfl⟩
  rw [e27] at K27 B27
  have Siz_28 := Nat.le_trans Siz_22 K27.1
  have Arr_29 := own_Arr.keep K27 Arr_23 (ninS ne21_o7 nin0)
  have Exa_30 := A21.keep K27
  show own_Goes p e below T27 (mkF m 136 #[.val (.int p1), .val (.int p2), .val (.int p3), .val (.int p4), .val (.int p5), .val (.int p6), .val (.int nn), .val (.int s1), .val (.int kv), .val (.int s2), .val (.int cv1), .val (.int s3), .val (.int cv2), .val (.ref o7), .unset, .unset, .unset, .unset, .unset, .unset] [(.ref o21)]) _
  obtain ⟨aS, aC, FS, FC, FM, AS, AC, gS, gC, nSC⟩ := B27
  have DS := own_DB0 n
  have DC := own_DB0 n
  have ne_o7_aS : o7 ≠ aS := Nat.ne_of_lt (Nat.lt_of_lt_of_le (own_Arr.lt Arr_23) gS)
  have ne_o21_aS : o21 ≠ aS := Nat.ne_of_lt (Nat.lt_of_lt_of_le A21.lt gS)
  have ne_o7_aC : o7 ≠ aC := Nat.ne_of_lt (Nat.lt_of_lt_of_le (own_Arr.lt Arr_23) gC)
  have ne_o21_aC : o21 ≠ aC := Nat.ne_of_lt (Nat.lt_of_lt_of_le A21.lt gC)
  refine own_astore X27 hx (Ls' := #[.val (.int p1), .val (.int p2), .val (.int p3), .val (.int p4), .val (.int p5), .val (.int p6), .val (.int nn), .val (.int s1), .val (.int kv), .val (.int s2), .val (.int cv1), .val (.int s3), .val (.int cv2), .val (.ref o7), .val (.ref o21), .unset, .unset, .unset, .unset, .unset]) (pc' := 138) rfl (hb hby at_136) rfl rfl ?_
  refine own_aload X27 hx (pc' := 140) rfl (hb hby at_138) rfl rfl ?_
  refine own_callV X27 hx hZ (y := (⟨"com/example/ferrule/ferrule/matrix/CompensatedSums", "magnitude", "()D"⟩ : MethodName)) hown (hw _ (List.mem_of_getElem? (i := 14) rfl)) (hw _ (List.mem_of_getElem? (i := 15) rfl)) (hw _ (List.mem_of_getElem? (i := 17) rfl)) (hw _ (List.mem_of_getElem? (i := 16) rfl)) (hw _ (List.mem_of_getElem? (i := 3) rfl)) (hw _ (List.mem_of_getElem? (i := 18) rfl)) Exa_30  (by decide) (rm_mag0 l Z a0 hw [] o21 h27 n0 Siz_28 Exa_30 FM) (by decide) (W := 0) (by decide) (by decide) (by decide) e27 (by rw [hml]; rfl) (argsL := []) (rest := []) rfl (lenOf pd___D rfl) rfl (Nat.le_of_eq rfl) (pc' := 143) rfl (hb hby at_140) ?_
  rintro _ T34 L34 X34 ⟨rfl, N34, e34⟩
  have M34 := Fr.app M27 N34
  show own_Goes p e below T34 (mkF m 143 #[.val (.int p1), .val (.int p2), .val (.int p3), .val (.int p4), .val (.int p5), .val (.int p6), .val (.int nn), .val (.int s1), .val (.int kv), .val (.int s2), .val (.int cv1), .val (.int s3), .val (.int cv2), .val (.ref o7), .val (.ref o21), .unset, .unset, .unset, .unset, .unset] [(.double FP.dconst0)]) _
  refine own_dconst0 X34 hx (v := FP.dconst0) (pc' := 144) rfl (hb hby at_143) rfl ?_
  refine own_dcmp X34 hx (v := (0 : Int32)) (pc' := 145) rfl (hb hby at_144) (own_eq0 _) ?_
  refine own_ifF X34 hx (pc' := 148) rfl (hb hby at_145) (XT.i0_ne_f (by decide)) ?_
  refine own_iconst X34 hx (v := (1 : Int32)) (pc' := 149) rfl (hb hby at_148) rfl ?_
  refine own_goto X34 hx (pc' := 153) (hb hby at_149) (by decide) (by decide) ?_
  refine own_istore X34 hx (Ls' := #[.val (.int p1), .val (.int p2), .val (.int p3), .val (.int p4), .val (.int p5), .val (.int p6), .val (.int nn), .val (.int s1), .val (.int kv), .val (.int s2), .val (.int cv1), .val (.int s3), .val (.int cv2), .val (.ref o7), .val (.ref o21), .val (.int (1 : Int32)), .unset, .unset, .unset, .unset]) (pc' := 155) rfl (hb hby at_153) rfl ?_
  refine own_iload X34 hx (pc' := 157) rfl (hb hby at_155) rfl ?_
  by_cases c157_35 : s1 = 0
  · refine own_ifT X34 hx (pc' := 170) (hb hby at_157) (XT.i0_eq_t c157_35) (by decide) (by decide) ?_
    refine own_iload X34 hx (pc' := 172) rfl (hb hby at_170) rfl ?_
    by_cases c172_36 : s2 = 0
    · refine own_ifT X34 hx (pc' := 187) (hb hby at_172) (XT.i0_eq_t c172_36) (by decide) (by decide) ?_
      refine own_lconst X34 hx (v := (0 : Int64)) (pc' := 188) rfl (hb hby at_187) rfl ?_
      refine own_lstore X34 hx (Ls' := #[.val (.int p1), .val (.int p2), .val (.int p3), .val (.int p4), .val (.int p5), .val (.int p6), .val (.int nn), .val (.int s1), .val (.int kv), .val (.int s2), .val (.int cv1), .val (.int s3), .val (.int cv2), .val (.ref o7), .val (.ref o21), .val (.int (1 : Int32)), .val (.long (0 : Int64)), .second, .unset, .unset]) (pc' := 190) rfl (hb hby at_188) rfl ?_
      refine own_iload X34 hx (pc' := 192) rfl (hb hby at_190) rfl ?_
      refine own_ifT X34 hx (pc' := 204) (hb hby at_192) (XT.i0_eq_t c172_36) (by decide) (by decide) ?_
      refine own_iload X34 hx (pc' := 206) rfl (hb hby at_204) rfl ?_
      refine own_ifF X34 hx (pc' := 209) rfl (hb hby at_206) (XT.i0_eq_f (by decide)) ?_
      refine own_aload X34 hx (pc' := 211) rfl (hb hby at_209) rfl rfl ?_
      refine own_callV X34 hx hZ (y := (⟨"com/example/ferrule/ferrule/matrix/CompensatedSums", "magnitude", "()D"⟩ : MethodName)) hown (hw _ (List.mem_of_getElem? (i := 14) rfl)) (hw _ (List.mem_of_getElem? (i := 15) rfl)) (hw _ (List.mem_of_getElem? (i := 17) rfl)) (hw _ (List.mem_of_getElem? (i := 16) rfl)) (hw _ (List.mem_of_getElem? (i := 3) rfl)) (hw _ (List.mem_of_getElem? (i := 18) rfl)) Exa_30  (by decide) (rm_mag0 l Z a0 hw [] o21 h27 n0 Siz_28 Exa_30 FM) (by decide) (W := 0) (by decide) (by decide) (by decide) e34 (by rw [hml]; rfl) (argsL := []) (rest := []) rfl (lenOf pd___D rfl) rfl (Nat.le_of_eq rfl) (pc' := 214) rfl (hb hby at_211) ?_
      rintro _ T37 L37 X37 ⟨rfl, N37, e37⟩
      have M37 := Fr.app M34 N37
      show own_Goes p e below T37 (mkF m 214 #[.val (.int p1), .val (.int p2), .val (.int p3), .val (.int p4), .val (.int p5), .val (.int p6), .val (.int nn), .val (.int s1), .val (.int kv), .val (.int s2), .val (.int cv1), .val (.int s3), .val (.int cv2), .val (.ref o7), .val (.ref o21), .val (.int (1 : Int32)), .val (.long (0 : Int64)), .second, .unset, .unset] [(.double FP.dconst0)]) _
      refine own_lload X37 hx (pc' := 216) rfl (hb hby at_214) rfl ?_
      refine own_l2d X37 hx (v := (FP.l2d (0 : Int64))) (pc' := 217) rfl (hb hby at_216) rfl ?_
      refine own_dcmp X37 hx (v := (0 : Int32)) (pc' := 218) rfl (hb hby at_217) (own_eqv own_dc0 rfl (by decide) _) ?_
      refine own_ifF X37 hx (pc' := 221) rfl (hb hby at_218) (XT.i0_ne_f (by decide)) ?_
      refine own_iconst X37 hx (v := (1 : Int32)) (pc' := 222) rfl (hb hby at_221) rfl ?_
      refine own_goto X37 hx (pc' := 226) (hb hby at_222) (by decide) (by decide) ?_
      refine own_istore X37 hx (Ls' := #[.val (.int p1), .val (.int p2), .val (.int p3), .val (.int p4), .val (.int p5), .val (.int p6), .val (.int nn), .val (.int s1), .val (.int kv), .val (.int s2), .val (.int cv1), .val (.int s3), .val (.int cv2), .val (.ref o7), .val (.ref o21), .val (.int (1 : Int32)), .val (.long (0 : Int64)), .second, .unset, .unset]) (pc' := 228) rfl (hb hby at_226) rfl ?_
      refine own_lload X37 hx (pc' := 230) rfl (hb hby at_228) rfl ?_
      refine own_iload X37 hx (pc' := 232) rfl (hb hby at_230) rfl ?_
      by_cases c232_38 : s3 = 0
      · refine own_ifT X37 hx (pc' := 247) (hb hby at_232) (XT.i0_eq_t c232_38) (by decide) (by decide) ?_
        refine own_lconst X37 hx (v := (0 : Int64)) (pc' := 248) rfl (hb hby at_247) rfl ?_
        refine own_ladd X37 hx (v := (0 : Int64)) (pc' := 249) rfl (hb hby at_248) (by decide) ?_
        refine own_lstore X37 hx (Ls' := #[.val (.int p1), .val (.int p2), .val (.int p3), .val (.int p4), .val (.int p5), .val (.int p6), .val (.int nn), .val (.int s1), .val (.int kv), .val (.int s2), .val (.int cv1), .val (.int s3), .val (.int cv2), .val (.ref o7), .val (.ref o21), .val (.int (1 : Int32)), .val (.long (0 : Int64)), .second, .val (.long (0 : Int64)), .second]) (pc' := 251) rfl (hb hby at_249) rfl ?_
        refine own_iload X37 hx (pc' := 253) rfl (hb hby at_251) rfl ?_
        refine own_ifT X37 hx (pc' := 265) (hb hby at_253) (XT.i0_eq_t c232_38) (by decide) (by decide) ?_
        refine own_iload X37 hx (pc' := 267) rfl (hb hby at_265) rfl ?_
        refine own_ifF X37 hx (pc' := 270) rfl (hb hby at_267) (XT.i0_eq_f (by decide)) ?_
        refine own_aload X37 hx (pc' := 272) rfl (hb hby at_270) rfl rfl ?_
        refine own_callV X37 hx hZ (y := (⟨"com/example/ferrule/ferrule/matrix/CompensatedSums", "magnitude", "()D"⟩ : MethodName)) hown (hw _ (List.mem_of_getElem? (i := 14) rfl)) (hw _ (List.mem_of_getElem? (i := 15) rfl)) (hw _ (List.mem_of_getElem? (i := 17) rfl)) (hw _ (List.mem_of_getElem? (i := 16) rfl)) (hw _ (List.mem_of_getElem? (i := 3) rfl)) (hw _ (List.mem_of_getElem? (i := 18) rfl)) Exa_30  (by decide) (rm_mag0 l Z a0 hw [] o21 h27 n0 Siz_28 Exa_30 FM) (by decide) (W := 0) (by decide) (by decide) (by decide) e37 (by rw [hml]; rfl) (argsL := []) (rest := []) rfl (lenOf pd___D rfl) rfl (Nat.le_of_eq rfl) (pc' := 275) rfl (hb hby at_272) ?_
        rintro _ T39 L39 X39 ⟨rfl, N39, e39⟩
        have M39 := Fr.app M37 N39
        show own_Goes p e below T39 (mkF m 275 #[.val (.int p1), .val (.int p2), .val (.int p3), .val (.int p4), .val (.int p5), .val (.int p6), .val (.int nn), .val (.int s1), .val (.int kv), .val (.int s2), .val (.int cv1), .val (.int s3), .val (.int cv2), .val (.ref o7), .val (.ref o21), .val (.int (1 : Int32)), .val (.long (0 : Int64)), .second, .val (.long (0 : Int64)), .second] [(.double FP.dconst0)]) _
        refine own_lload X39 hx (pc' := 277) rfl (hb hby at_275) rfl ?_
        refine own_l2d X39 hx (v := (FP.l2d (0 : Int64))) (pc' := 278) rfl (hb hby at_277) rfl ?_
        refine own_dcmp X39 hx (v := (0 : Int32)) (pc' := 279) rfl (hb hby at_278) (own_eqv own_dc0 rfl (by decide) _) ?_
        refine own_ifF X39 hx (pc' := 282) rfl (hb hby at_279) (XT.i0_ne_f (by decide)) ?_
        refine own_iconst X39 hx (v := (1 : Int32)) (pc' := 283) rfl (hb hby at_282) rfl ?_
        refine own_goto X39 hx (pc' := 287) (hb hby at_283) (by decide) (by decide) ?_
        refine own_istore X39 hx (Ls' := #[.val (.int p1), .val (.int p2), .val (.int p3), .val (.int p4), .val (.int p5), .val (.int p6), .val (.int nn), .val (.int s1), .val (.int kv), .val (.int s2), .val (.int cv1), .val (.int s3), .val (.int cv2), .val (.ref o7), .val (.ref o21), .val (.int (1 : Int32)), .val (.long (0 : Int64)), .second, .val (.long (0 : Int64)), .second]) (pc' := 289) rfl (hb hby at_287) rfl ?_
        refine own_iload X39 hx (pc' := 291) rfl (hb hby at_289) rfl ?_
        refine own_zret X39 hx hlk hret (by simp) (hb hby at_291) (by decide) (by decide) ?_
        rw [e39]
        exact ⟨rfl, M39⟩
      · refine own_ifF X37 hx (pc' := 235) rfl (hb hby at_232) (XT.i0_eq_f c232_38) ?_
        refine own_iloadN X37 hx (pc' := 236) rfl (hb hby at_235) rfl ?_
        refine own_iloadN X37 hx (pc' := 237) rfl (hb hby at_236) rfl ?_
        refine own_iloadN X37 hx (pc' := 238) rfl (hb hby at_237) rfl ?_
        refine own_iloadN X37 hx (pc' := 239) rfl (hb hby at_238) rfl ?_
        refine own_iload X37 hx (pc' := 241) rfl (hb hby at_239) rfl ?_
        refine own_callS X37 hx hZ (y := (⟨"com/example/ferrule/ferrule/matrix/CompensatedSumsMagnitudePinLaw", "upTo", "(IIIII)J"⟩ : MethodName)) hown (hw _ (List.mem_of_getElem? (i := 34) rfl)) (hw _ (List.mem_of_getElem? (i := 35) rfl)) (hw _ (List.mem_of_getElem? (i := 36) rfl)) (hw _ (List.mem_of_getElem? (i := 37) rfl))  (by decide) (rm_upTo l Z a0 hw [] p1 p2 p3 p4 cv2 h27 n0 Siz_28) (by decide) (W := 2) (by decide) (by decide) (by decide) e37 (by rw [hml]; rfl) (argsL := [(.int p1), (.int p2), (.int p3), (.int p4), (.int cv2)]) (rest := [(.long (0 : Int64))]) rfl (lenOf pd__IIIII_J rfl) rfl (Nat.le_of_eq rfl) (pc' := 244) rfl (hb hby at_241) ?_
        rintro _ T40 L40 X40 ⟨rfl, N40, e40⟩
        have M40 := Fr.app M37 N40
        show own_Goes p e below T40 (mkF m 244 #[.val (.int p1), .val (.int p2), .val (.int p3), .val (.int p4), .val (.int p5), .val (.int p6), .val (.int nn), .val (.int s1), .val (.int kv), .val (.int s2), .val (.int cv1), .val (.int s3), .val (.int cv2), .val (.ref o7), .val (.ref o21), .val (.int (1 : Int32)), .val (.long (0 : Int64)), .second, .unset, .unset] [(.long (own_upTo p1 p2 p3 p4 cv2)), (.long (0 : Int64))]) _
        refine own_goto X40 hx (pc' := 248) (hb hby at_244) (by decide) (by decide) ?_
        have hu2 := own_up p1 p2 p3 p4 hm2 hm2n hz4
        generalize (own_upTo p1 p2 p3 p4 cv2) = mu2 at hu2 ⊢
        refine own_ladd X40 hx (v := ((0 : Int64) + mu2)) (pc' := 249) rfl (hb hby at_248) rfl ?_
        refine own_lstore X40 hx (Ls' := #[.val (.int p1), .val (.int p2), .val (.int p3), .val (.int p4), .val (.int p5), .val (.int p6), .val (.int nn), .val (.int s1), .val (.int kv), .val (.int s2), .val (.int cv1), .val (.int s3), .val (.int cv2), .val (.ref o7), .val (.ref o21), .val (.int (1 : Int32)), .val (.long (0 : Int64)), .second, .val (.long ((0 : Int64) + mu2)), .second]) (pc' := 251) rfl (hb hby at_249) rfl ?_
        refine own_iload X40 hx (pc' := 253) rfl (hb hby at_251) rfl ?_
        refine own_ifF X40 hx (pc' := 256) rfl (hb hby at_253) (XT.i0_eq_f c232_38) ?_
        refine own_aload X40 hx (pc' := 258) rfl (hb hby at_256) rfl rfl ?_
        refine own_aload X40 hx (pc' := 260) rfl (hb hby at_258) rfl rfl ?_
        refine own_iload X40 hx (pc' := 262) rfl (hb hby at_260) rfl ?_
        refine own_callV X40 hx hZ (y := (⟨"com/example/ferrule/ferrule/matrix/CompensatedSums", "add", "([DI)V"⟩ : MethodName)) hown (hw _ (List.mem_of_getElem? (i := 44) rfl)) (hw _ (List.mem_of_getElem? (i := 45) rfl)) (hw _ (List.mem_of_getElem? (i := 47) rfl)) (hw _ (List.mem_of_getElem? (i := 46) rfl)) (hw _ (List.mem_of_getElem? (i := 3) rfl)) (hw _ (List.mem_of_getElem? (i := 48) rfl)) Exa_30  (by decide) (rm_addN l Z a0 hw [] aS aC n (fun _ => (.double (0 : UInt64))) (fun _ => (.double (0 : UInt64))) _ (own_upd (own_upd (own_upd (own_upd (fun _ => (.double (0 : UInt64))) 0 (.double (FP.l2d p1.toInt64))) 1 (.double (FP.l2d p2.toInt64))) 2 (.double (FP.l2d p3.toInt64))) 3 (.double (FP.l2d p4.toInt64))) _ _ _ o21 o7 cv2 h27 n0 Siz_28 Exa_30 FS FC FM AS AC Arr_29 ge21 (Nat.le_trans Siz_22 gS) (Nat.le_trans Siz_22 gC) ne_o21_aS ne_o21_aC (Ne.symm ne21_o7) nSC ne_o7_aS ne_o7_aC DS DC hV (by decide) hm2 hm2n hz2 hz0 hz1 hz4) (by decide) (W := 0) (by decide) (by decide) (by decide) e40 (by rw [hml]; rfl) (argsL := [(.ref o7), (.int cv2)]) (rest := []) rfl (lenOf pd___DI_V rfl) rfl (Nat.le_of_eq rfl) (pc' := 265) rfl (hb hby at_262) ?_
        rintro _ T41 L41 X41 ⟨rfl, N41, K41, B41⟩
        have M41 := Fr.app M40 N41
        obtain ⟨h41, e41⟩ : ∃ z, T41.heap = z := ⟨_, rfl⟩
        rw [e41] at K41 B41
        have Siz_42 := Nat.le_trans Siz_28 K41.1
        have Arr_43 := own_Arr.keep K41 Arr_29 (ninS ne21_o7 (ninS ne_o7_aS (ninS ne_o7_aC nin0)))
        have Exa_44 := Exa_30.keep K41
        show own_Goes p e below T41 (mkF m 265 #[.val (.int p1), .val (.int p2), .val (.int p3), .val (.int p4), .val (.int p5), .val (.int p6), .val (.int nn), .val (.int s1), .val (.int kv), .val (.int s2), .val (.int cv1), .val (.int s3), .val (.int cv2), .val (.ref o7), .val (.ref o21), .val (.int (1 : Int32)), .val (.long (0 : Int64)), .second, .val (.long ((0 : Int64) + mu2)), .second] []) _
        obtain ⟨aM41, fs41, fc41, fm41, FS41, FC41, FM41, AS41, DS41, AC41, DC41, AM41, DM41, gM41⟩ := B41
        have ne_o7_aM41 : o7 ≠ aM41 := Nat.ne_of_lt (Nat.lt_of_lt_of_le (own_Arr.lt Arr_29) gM41)
        have ne_o21_aM41 : o21 ≠ aM41 := Nat.ne_of_lt (Nat.lt_of_lt_of_le Exa_30.lt gM41)
        have ne_aS_aM41 : aS ≠ aM41 := Nat.ne_of_lt (Nat.lt_of_lt_of_le (own_Arr.lt AS) gM41)
        have ne_aC_aM41 : aC ≠ aM41 := Nat.ne_of_lt (Nat.lt_of_lt_of_le (own_Arr.lt AC) gM41)
        refine own_iload X41 hx (pc' := 267) rfl (hb hby at_265) rfl ?_
        refine own_ifF X41 hx (pc' := 270) rfl (hb hby at_267) (XT.i0_eq_f (by decide)) ?_
        refine own_aload X41 hx (pc' := 272) rfl (hb hby at_270) rfl rfl ?_
        refine own_callV X41 hx hZ (y := (⟨"com/example/ferrule/ferrule/matrix/CompensatedSums", "magnitude", "()D"⟩ : MethodName)) hown (hw _ (List.mem_of_getElem? (i := 14) rfl)) (hw _ (List.mem_of_getElem? (i := 15) rfl)) (hw _ (List.mem_of_getElem? (i := 17) rfl)) (hw _ (List.mem_of_getElem? (i := 16) rfl)) (hw _ (List.mem_of_getElem? (i := 3) rfl)) (hw _ (List.mem_of_getElem? (i := 18) rfl)) Exa_44  (by decide) (rm_mag l Z a0 hw [] aM41 n fm41 (own_addG own_zf (own_w4 p1 p2 p3 p4) cn2) o21 h41 n0 Siz_42 Exa_44 FM41 AM41 DM41 (own_gB.mono (own_addGB own_gB0 (own_w4B p1 p2 p3 p4) (Nat.le_trans hm2n hz4)) (by decide)) hn) (by decide) (W := 0) (by decide) (by decide) (by decide) e41 (by rw [hml]; rfl) (argsL := []) (rest := []) rfl (lenOf pd___D rfl) rfl (Nat.le_of_eq rfl) (pc' := 275) rfl (hb hby at_272) ?_
        rintro _ T50 L50 X50 ⟨r50, rfl, hr50, N50, e50⟩
        have M50 := Fr.app M41 N50
        show own_Goes p e below T50 (mkF m 275 #[.val (.int p1), .val (.int p2), .val (.int p3), .val (.int p4), .val (.int p5), .val (.int p6), .val (.int nn), .val (.int s1), .val (.int kv), .val (.int s2), .val (.int cv1), .val (.int s3), .val (.int cv2), .val (.ref o7), .val (.ref o21), .val (.int (1 : Int32)), .val (.long (0 : Int64)), .second, .val (.long ((0 : Int64) + mu2)), .second] [(.double r50)]) _
        refine own_lload X50 hx (pc' := 277) rfl (hb hby at_275) rfl ?_
        refine own_l2d X50 hx (v := (FP.l2d ((0 : Int64) + mu2))) (pc' := 278) rfl (hb hby at_277) rfl ?_
        refine own_dcmp X50 hx (v := (0 : Int32)) (pc' := 279) rfl (hb hby at_278) (own_eqv hr50 (by rw [own_m01 hu2.2.1 hu2.2.2, hu2.1, own_sum0]; omega) (own_sumN (own_gB.mono (own_addGB own_gB0 (own_w4B p1 p2 p3 p4) (Nat.le_trans hm2n hz4)) (by decide)) hz4) _) ?_
        refine own_ifF X50 hx (pc' := 282) rfl (hb hby at_279) (XT.i0_ne_f (by decide)) ?_
        refine own_iconst X50 hx (v := (1 : Int32)) (pc' := 283) rfl (hb hby at_282) rfl ?_
        refine own_goto X50 hx (pc' := 287) (hb hby at_283) (by decide) (by decide) ?_
        refine own_istore X50 hx (Ls' := #[.val (.int p1), .val (.int p2), .val (.int p3), .val (.int p4), .val (.int p5), .val (.int p6), .val (.int nn), .val (.int s1), .val (.int kv), .val (.int s2), .val (.int cv1), .val (.int s3), .val (.int cv2), .val (.ref o7), .val (.ref o21), .val (.int (1 : Int32)), .val (.long (0 : Int64)), .second, .val (.long ((0 : Int64) + mu2)), .second]) (pc' := 289) rfl (hb hby at_287) rfl ?_
        refine own_iload X50 hx (pc' := 291) rfl (hb hby at_289) rfl ?_
        refine own_zret X50 hx hlk hret (by simp) (hb hby at_291) (by decide) (by decide) ?_
        rw [e50]
        exact ⟨rfl, M50⟩
    · refine own_ifF X34 hx (pc' := 175) rfl (hb hby at_172) (XT.i0_eq_f c172_36) ?_
      refine own_iloadN X34 hx (pc' := 176) rfl (hb hby at_175) rfl ?_
      refine own_iloadN X34 hx (pc' := 177) rfl (hb hby at_176) rfl ?_
      refine own_iloadN X34 hx (pc' := 178) rfl (hb hby at_177) rfl ?_
      refine own_iloadN X34 hx (pc' := 179) rfl (hb hby at_178) rfl ?_
      refine own_iload X34 hx (pc' := 181) rfl (hb hby at_179) rfl ?_
      refine own_callS X34 hx hZ (y := (⟨"com/example/ferrule/ferrule/matrix/CompensatedSumsMagnitudePinLaw", "upTo", "(IIIII)J"⟩ : MethodName)) hown (hw _ (List.mem_of_getElem? (i := 34) rfl)) (hw _ (List.mem_of_getElem? (i := 35) rfl)) (hw _ (List.mem_of_getElem? (i := 36) rfl)) (hw _ (List.mem_of_getElem? (i := 37) rfl))  (by decide) (rm_upTo l Z a0 hw [] p1 p2 p3 p4 cv1 h27 n0 Siz_28) (by decide) (W := 0) (by decide) (by decide) (by decide) e34 (by rw [hml]; rfl) (argsL := [(.int p1), (.int p2), (.int p3), (.int p4), (.int cv1)]) (rest := []) rfl (lenOf pd__IIIII_J rfl) rfl (Nat.le_of_eq rfl) (pc' := 184) rfl (hb hby at_181) ?_
      rintro _ T51 L51 X51 ⟨rfl, N51, e51⟩
      have M51 := Fr.app M34 N51
      show own_Goes p e below T51 (mkF m 184 #[.val (.int p1), .val (.int p2), .val (.int p3), .val (.int p4), .val (.int p5), .val (.int p6), .val (.int nn), .val (.int s1), .val (.int kv), .val (.int s2), .val (.int cv1), .val (.int s3), .val (.int cv2), .val (.ref o7), .val (.ref o21), .val (.int (1 : Int32)), .unset, .unset, .unset, .unset] [(.long (own_upTo p1 p2 p3 p4 cv1))]) _
      refine own_goto X51 hx (pc' := 188) (hb hby at_184) (by decide) (by decide) ?_
      have hu1 := own_up p1 p2 p3 p4 hm1 hm1n hz4
      generalize (own_upTo p1 p2 p3 p4 cv1) = mu1 at hu1 ⊢
      refine own_lstore X51 hx (Ls' := #[.val (.int p1), .val (.int p2), .val (.int p3), .val (.int p4), .val (.int p5), .val (.int p6), .val (.int nn), .val (.int s1), .val (.int kv), .val (.int s2), .val (.int cv1), .val (.int s3), .val (.int cv2), .val (.ref o7), .val (.ref o21), .val (.int (1 : Int32)), .val (.long mu1), .second, .unset, .unset]) (pc' := 190) rfl (hb hby at_188) rfl ?_
      refine own_iload X51 hx (pc' := 192) rfl (hb hby at_190) rfl ?_
      refine own_ifF X51 hx (pc' := 195) rfl (hb hby at_192) (XT.i0_eq_f c172_36) ?_
      refine own_aload X51 hx (pc' := 197) rfl (hb hby at_195) rfl rfl ?_
      refine own_aload X51 hx (pc' := 199) rfl (hb hby at_197) rfl rfl ?_
      refine own_iload X51 hx (pc' := 201) rfl (hb hby at_199) rfl ?_
      refine own_callV X51 hx hZ (y := (⟨"com/example/ferrule/ferrule/matrix/CompensatedSums", "add", "([DI)V"⟩ : MethodName)) hown (hw _ (List.mem_of_getElem? (i := 44) rfl)) (hw _ (List.mem_of_getElem? (i := 45) rfl)) (hw _ (List.mem_of_getElem? (i := 47) rfl)) (hw _ (List.mem_of_getElem? (i := 46) rfl)) (hw _ (List.mem_of_getElem? (i := 3) rfl)) (hw _ (List.mem_of_getElem? (i := 48) rfl)) Exa_30  (by decide) (rm_addN l Z a0 hw [] aS aC n (fun _ => (.double (0 : UInt64))) (fun _ => (.double (0 : UInt64))) _ (own_upd (own_upd (own_upd (own_upd (fun _ => (.double (0 : UInt64))) 0 (.double (FP.l2d p1.toInt64))) 1 (.double (FP.l2d p2.toInt64))) 2 (.double (FP.l2d p3.toInt64))) 3 (.double (FP.l2d p4.toInt64))) _ _ _ o21 o7 cv1 h27 n0 Siz_28 Exa_30 FS FC FM AS AC Arr_29 ge21 (Nat.le_trans Siz_22 gS) (Nat.le_trans Siz_22 gC) ne_o21_aS ne_o21_aC (Ne.symm ne21_o7) nSC ne_o7_aS ne_o7_aC DS DC hV (by decide) hm1 hm1n hz2 hz0 hz1 hz4) (by decide) (W := 0) (by decide) (by decide) (by decide) e51 (by rw [hml]; rfl) (argsL := [(.ref o7), (.int cv1)]) (rest := []) rfl (lenOf pd___DI_V rfl) rfl (Nat.le_of_eq rfl) (pc' := 204) rfl (hb hby at_201) ?_
      rintro _ T52 L52 X52 ⟨rfl, N52, K52, B52⟩
      have M52 := Fr.app M51 N52
      obtain ⟨h52, e52⟩ : ∃ z, T52.heap = z := ⟨_, rfl⟩
      rw [e52] at K52 B52
      have Siz_53 := Nat.le_trans Siz_28 K52.1
      have Arr_54 := own_Arr.keep K52 Arr_29 (ninS ne21_o7 (ninS ne_o7_aS (ninS ne_o7_aC nin0)))
      have Exa_55 := Exa_30.keep K52
      show own_Goes p e below T52 (mkF m 204 #[.val (.int p1), .val (.int p2), .val (.int p3), .val (.int p4), .val (.int p5), .val (.int p6), .val (.int nn), .val (.int s1), .val (.int kv), .val (.int s2), .val (.int cv1), .val (.int s3), .val (.int cv2), .val (.ref o7), .val (.ref o21), .val (.int (1 : Int32)), .val (.long mu1), .second, .unset, .unset] []) _
      obtain ⟨aM52, fs52, fc52, fm52, FS52, FC52, FM52, AS52, DS52, AC52, DC52, AM52, DM52, gM52⟩ := B52
      have ne_o7_aM52 : o7 ≠ aM52 := Nat.ne_of_lt (Nat.lt_of_lt_of_le (own_Arr.lt Arr_29) gM52)
      have ne_o21_aM52 : o21 ≠ aM52 := Nat.ne_of_lt (Nat.lt_of_lt_of_le Exa_30.lt gM52)
      have ne_aS_aM52 : aS ≠ aM52 := Nat.ne_of_lt (Nat.lt_of_lt_of_le (own_Arr.lt AS) gM52)
      have ne_aC_aM52 : aC ≠ aM52 := Nat.ne_of_lt (Nat.lt_of_lt_of_le (own_Arr.lt AC) gM52)
      refine own_iload X52 hx (pc' := 206) rfl (hb hby at_204) rfl ?_
      refine own_ifF X52 hx (pc' := 209) rfl (hb hby at_206) (XT.i0_eq_f (by decide)) ?_
      refine own_aload X52 hx (pc' := 211) rfl (hb hby at_209) rfl rfl ?_
      refine own_callV X52 hx hZ (y := (⟨"com/example/ferrule/ferrule/matrix/CompensatedSums", "magnitude", "()D"⟩ : MethodName)) hown (hw _ (List.mem_of_getElem? (i := 14) rfl)) (hw _ (List.mem_of_getElem? (i := 15) rfl)) (hw _ (List.mem_of_getElem? (i := 17) rfl)) (hw _ (List.mem_of_getElem? (i := 16) rfl)) (hw _ (List.mem_of_getElem? (i := 3) rfl)) (hw _ (List.mem_of_getElem? (i := 18) rfl)) Exa_55  (by decide) (rm_mag l Z a0 hw [] aM52 n fm52 (own_addG own_zf (own_w4 p1 p2 p3 p4) cn1) o21 h52 n0 Siz_53 Exa_55 FM52 AM52 DM52 (own_gB.mono (own_addGB own_gB0 (own_w4B p1 p2 p3 p4) (Nat.le_trans hm1n hz4)) (by decide)) hn) (by decide) (W := 0) (by decide) (by decide) (by decide) e52 (by rw [hml]; rfl) (argsL := []) (rest := []) rfl (lenOf pd___D rfl) rfl (Nat.le_of_eq rfl) (pc' := 214) rfl (hb hby at_211) ?_
      rintro _ T61 L61 X61 ⟨r61, rfl, hr61, N61, e61⟩
      have M61 := Fr.app M52 N61
      show own_Goes p e below T61 (mkF m 214 #[.val (.int p1), .val (.int p2), .val (.int p3), .val (.int p4), .val (.int p5), .val (.int p6), .val (.int nn), .val (.int s1), .val (.int kv), .val (.int s2), .val (.int cv1), .val (.int s3), .val (.int cv2), .val (.ref o7), .val (.ref o21), .val (.int (1 : Int32)), .val (.long mu1), .second, .unset, .unset] [(.double r61)]) _
      refine own_lload X61 hx (pc' := 216) rfl (hb hby at_214) rfl ?_
      refine own_l2d X61 hx (v := (FP.l2d mu1)) (pc' := 217) rfl (hb hby at_216) rfl ?_
      refine own_dcmp X61 hx (v := (0 : Int32)) (pc' := 218) rfl (hb hby at_217) (own_eqv hr61 (by rw [hu1.1, own_sum0]; omega) (own_sumN (own_gB.mono (own_addGB own_gB0 (own_w4B p1 p2 p3 p4) (Nat.le_trans hm1n hz4)) (by decide)) hz4) _) ?_
      refine own_ifF X61 hx (pc' := 221) rfl (hb hby at_218) (XT.i0_ne_f (by decide)) ?_
      refine own_iconst X61 hx (v := (1 : Int32)) (pc' := 222) rfl (hb hby at_221) rfl ?_
      refine own_goto X61 hx (pc' := 226) (hb hby at_222) (by decide) (by decide) ?_
      refine own_istore X61 hx (Ls' := #[.val (.int p1), .val (.int p2), .val (.int p3), .val (.int p4), .val (.int p5), .val (.int p6), .val (.int nn), .val (.int s1), .val (.int kv), .val (.int s2), .val (.int cv1), .val (.int s3), .val (.int cv2), .val (.ref o7), .val (.ref o21), .val (.int (1 : Int32)), .val (.long mu1), .second, .unset, .unset]) (pc' := 228) rfl (hb hby at_226) rfl ?_
      refine own_lload X61 hx (pc' := 230) rfl (hb hby at_228) rfl ?_
      refine own_iload X61 hx (pc' := 232) rfl (hb hby at_230) rfl ?_
      by_cases c232_62 : s3 = 0
      · refine own_ifT X61 hx (pc' := 247) (hb hby at_232) (XT.i0_eq_t c232_62) (by decide) (by decide) ?_
        refine own_lconst X61 hx (v := (0 : Int64)) (pc' := 248) rfl (hb hby at_247) rfl ?_
        refine own_ladd X61 hx (v := (mu1 + (0 : Int64))) (pc' := 249) rfl (hb hby at_248) rfl ?_
        refine own_lstore X61 hx (Ls' := #[.val (.int p1), .val (.int p2), .val (.int p3), .val (.int p4), .val (.int p5), .val (.int p6), .val (.int nn), .val (.int s1), .val (.int kv), .val (.int s2), .val (.int cv1), .val (.int s3), .val (.int cv2), .val (.ref o7), .val (.ref o21), .val (.int (1 : Int32)), .val (.long mu1), .second, .val (.long (mu1 + (0 : Int64))), .second]) (pc' := 251) rfl (hb hby at_249) rfl ?_
        refine own_iload X61 hx (pc' := 253) rfl (hb hby at_251) rfl ?_
        refine own_ifT X61 hx (pc' := 265) (hb hby at_253) (XT.i0_eq_t c232_62) (by decide) (by decide) ?_
        refine own_iload X61 hx (pc' := 267) rfl (hb hby at_265) rfl ?_
        refine own_ifF X61 hx (pc' := 270) rfl (hb hby at_267) (XT.i0_eq_f (by decide)) ?_
        refine own_aload X61 hx (pc' := 272) rfl (hb hby at_270) rfl rfl ?_
        refine own_callV X61 hx hZ (y := (⟨"com/example/ferrule/ferrule/matrix/CompensatedSums", "magnitude", "()D"⟩ : MethodName)) hown (hw _ (List.mem_of_getElem? (i := 14) rfl)) (hw _ (List.mem_of_getElem? (i := 15) rfl)) (hw _ (List.mem_of_getElem? (i := 17) rfl)) (hw _ (List.mem_of_getElem? (i := 16) rfl)) (hw _ (List.mem_of_getElem? (i := 3) rfl)) (hw _ (List.mem_of_getElem? (i := 18) rfl)) Exa_55  (by decide) (rm_mag l Z a0 hw [] aM52 n fm52 (own_addG own_zf (own_w4 p1 p2 p3 p4) cn1) o21 h52 n0 Siz_53 Exa_55 FM52 AM52 DM52 (own_gB.mono (own_addGB own_gB0 (own_w4B p1 p2 p3 p4) (Nat.le_trans hm1n hz4)) (by decide)) hn) (by decide) (W := 0) (by decide) (by decide) (by decide) e61 (by rw [hml]; rfl) (argsL := []) (rest := []) rfl (lenOf pd___D rfl) rfl (Nat.le_of_eq rfl) (pc' := 275) rfl (hb hby at_272) ?_
        rintro _ T63 L63 X63 ⟨r63, rfl, hr63, N63, e63⟩
        have M63 := Fr.app M61 N63
        show own_Goes p e below T63 (mkF m 275 #[.val (.int p1), .val (.int p2), .val (.int p3), .val (.int p4), .val (.int p5), .val (.int p6), .val (.int nn), .val (.int s1), .val (.int kv), .val (.int s2), .val (.int cv1), .val (.int s3), .val (.int cv2), .val (.ref o7), .val (.ref o21), .val (.int (1 : Int32)), .val (.long mu1), .second, .val (.long (mu1 + (0 : Int64))), .second] [(.double r63)]) _
        refine own_lload X63 hx (pc' := 277) rfl (hb hby at_275) rfl ?_
        refine own_l2d X63 hx (v := (FP.l2d (mu1 + (0 : Int64)))) (pc' := 278) rfl (hb hby at_277) rfl ?_
        refine own_dcmp X63 hx (v := (0 : Int32)) (pc' := 279) rfl (hb hby at_278) (own_eqv hr63 (by rw [own_m10 hu1.2.1 hu1.2.2, hu1.1, own_sum0]; omega) (own_sumN (own_gB.mono (own_addGB own_gB0 (own_w4B p1 p2 p3 p4) (Nat.le_trans hm1n hz4)) (by decide)) hz4) _) ?_
        refine own_ifF X63 hx (pc' := 282) rfl (hb hby at_279) (XT.i0_ne_f (by decide)) ?_
        refine own_iconst X63 hx (v := (1 : Int32)) (pc' := 283) rfl (hb hby at_282) rfl ?_
        refine own_goto X63 hx (pc' := 287) (hb hby at_283) (by decide) (by decide) ?_
        refine own_istore X63 hx (Ls' := #[.val (.int p1), .val (.int p2), .val (.int p3), .val (.int p4), .val (.int p5), .val (.int p6), .val (.int nn), .val (.int s1), .val (.int kv), .val (.int s2), .val (.int cv1), .val (.int s3), .val (.int cv2), .val (.ref o7), .val (.ref o21), .val (.int (1 : Int32)), .val (.long mu1), .second, .val (.long (mu1 + (0 : Int64))), .second]) (pc' := 289) rfl (hb hby at_287) rfl ?_
        refine own_iload X63 hx (pc' := 291) rfl (hb hby at_289) rfl ?_
        refine own_zret X63 hx hlk hret (by simp) (hb hby at_291) (by decide) (by decide) ?_
        rw [e63]
        exact ⟨rfl, M63⟩
      · refine own_ifF X61 hx (pc' := 235) rfl (hb hby at_232) (XT.i0_eq_f c232_62) ?_
        refine own_iloadN X61 hx (pc' := 236) rfl (hb hby at_235) rfl ?_
        refine own_iloadN X61 hx (pc' := 237) rfl (hb hby at_236) rfl ?_
        refine own_iloadN X61 hx (pc' := 238) rfl (hb hby at_237) rfl ?_
        refine own_iloadN X61 hx (pc' := 239) rfl (hb hby at_238) rfl ?_
        refine own_iload X61 hx (pc' := 241) rfl (hb hby at_239) rfl ?_
        refine own_callS X61 hx hZ (y := (⟨"com/example/ferrule/ferrule/matrix/CompensatedSumsMagnitudePinLaw", "upTo", "(IIIII)J"⟩ : MethodName)) hown (hw _ (List.mem_of_getElem? (i := 34) rfl)) (hw _ (List.mem_of_getElem? (i := 35) rfl)) (hw _ (List.mem_of_getElem? (i := 36) rfl)) (hw _ (List.mem_of_getElem? (i := 37) rfl))  (by decide) (rm_upTo l Z a0 hw [] p1 p2 p3 p4 cv2 h52 n0 Siz_53) (by decide) (W := 2) (by decide) (by decide) (by decide) e61 (by rw [hml]; rfl) (argsL := [(.int p1), (.int p2), (.int p3), (.int p4), (.int cv2)]) (rest := [(.long mu1)]) rfl (lenOf pd__IIIII_J rfl) rfl (Nat.le_of_eq rfl) (pc' := 244) rfl (hb hby at_241) ?_
        rintro _ T64 L64 X64 ⟨rfl, N64, e64⟩
        have M64 := Fr.app M61 N64
        show own_Goes p e below T64 (mkF m 244 #[.val (.int p1), .val (.int p2), .val (.int p3), .val (.int p4), .val (.int p5), .val (.int p6), .val (.int nn), .val (.int s1), .val (.int kv), .val (.int s2), .val (.int cv1), .val (.int s3), .val (.int cv2), .val (.ref o7), .val (.ref o21), .val (.int (1 : Int32)), .val (.long mu1), .second, .unset, .unset] [(.long (own_upTo p1 p2 p3 p4 cv2)), (.long mu1)]) _
        refine own_goto X64 hx (pc' := 248) (hb hby at_244) (by decide) (by decide) ?_
        have hu2 := own_up p1 p2 p3 p4 hm2 hm2n hz4
        generalize (own_upTo p1 p2 p3 p4 cv2) = mu2 at hu2 ⊢
        refine own_ladd X64 hx (v := (mu1 + mu2)) (pc' := 249) rfl (hb hby at_248) rfl ?_
        refine own_lstore X64 hx (Ls' := #[.val (.int p1), .val (.int p2), .val (.int p3), .val (.int p4), .val (.int p5), .val (.int p6), .val (.int nn), .val (.int s1), .val (.int kv), .val (.int s2), .val (.int cv1), .val (.int s3), .val (.int cv2), .val (.ref o7), .val (.ref o21), .val (.int (1 : Int32)), .val (.long mu1), .second, .val (.long (mu1 + mu2)), .second]) (pc' := 251) rfl (hb hby at_249) rfl ?_
        refine own_iload X64 hx (pc' := 253) rfl (hb hby at_251) rfl ?_
        refine own_ifF X64 hx (pc' := 256) rfl (hb hby at_253) (XT.i0_eq_f c232_62) ?_
        refine own_aload X64 hx (pc' := 258) rfl (hb hby at_256) rfl rfl ?_
        refine own_aload X64 hx (pc' := 260) rfl (hb hby at_258) rfl rfl ?_
        refine own_iload X64 hx (pc' := 262) rfl (hb hby at_260) rfl ?_
        refine own_callV X64 hx hZ (y := (⟨"com/example/ferrule/ferrule/matrix/CompensatedSums", "add", "([DI)V"⟩ : MethodName)) hown (hw _ (List.mem_of_getElem? (i := 44) rfl)) (hw _ (List.mem_of_getElem? (i := 45) rfl)) (hw _ (List.mem_of_getElem? (i := 47) rfl)) (hw _ (List.mem_of_getElem? (i := 46) rfl)) (hw _ (List.mem_of_getElem? (i := 3) rfl)) (hw _ (List.mem_of_getElem? (i := 48) rfl)) Exa_55  (by decide) (rm_addM l Z a0 hw [] aS aC aM52 n fs52 fc52 fm52 _ (own_upd (own_upd (own_upd (own_upd (fun _ => (.double (0 : UInt64))) 0 (.double (FP.l2d p1.toInt64))) 1 (.double (FP.l2d p2.toInt64))) 2 (.double (FP.l2d p3.toInt64))) 3 (.double (FP.l2d p4.toInt64))) _ _ _ o21 o7 cv2 h52 n0 Siz_53 Exa_55 FS52 FC52 FM52 AS52 AC52 AM52 Arr_54 (Nat.le_trans Siz_22 gS) (Nat.le_trans Siz_22 gC) (Nat.le_trans Siz_28 gM52) ne_o21_aS ne_o21_aC ne_o21_aM52 (Ne.symm ne21_o7) nSC ne_aS_aM52 ne_aC_aM52 ne_o7_aS ne_o7_aC ne_o7_aM52 DS52 DC52 hV (by decide) hm2 hm2n DM52 (own_gB.mono (own_addGB own_gB0 (own_w4B p1 p2 p3 p4) (Nat.le_trans hm1n hz4)) (by decide))) (by decide) (W := 0) (by decide) (by decide) (by decide) e64 (by rw [hml]; rfl) (argsL := [(.ref o7), (.int cv2)]) (rest := []) rfl (lenOf pd___DI_V rfl) rfl (Nat.le_of_eq rfl) (pc' := 265) rfl (hb hby at_262) ?_
        rintro _ T65 L65 X65 ⟨rfl, N65, K65, B65⟩
        have M65 := Fr.app M64 N65
        obtain ⟨h65, e65⟩ : ∃ z, T65.heap = z := ⟨_, rfl⟩
        rw [e65] at K65 B65
        have Siz_66 := Nat.le_trans Siz_53 K65.1
        have Arr_67 := own_Arr.keep K65 Arr_54 (ninS ne_o7_aS (ninS ne_o7_aC (ninS ne_o7_aM52 nin0)))
        have Exa_68 := Exa_55.keep K65
        have Fld_69 := FS52.keep K65 (ninS ne_o21_aS (ninS ne_o21_aC (ninS ne_o21_aM52 nin0)))
        have Fld_70 := FC52.keep K65 (ninS ne_o21_aS (ninS ne_o21_aC (ninS ne_o21_aM52 nin0)))
        have Fld_71 := FM52.keep K65 (ninS ne_o21_aS (ninS ne_o21_aC (ninS ne_o21_aM52 nin0)))
        show own_Goes p e below T65 (mkF m 265 #[.val (.int p1), .val (.int p2), .val (.int p3), .val (.int p4), .val (.int p5), .val (.int p6), .val (.int nn), .val (.int s1), .val (.int kv), .val (.int s2), .val (.int cv1), .val (.int s3), .val (.int cv2), .val (.ref o7), .val (.ref o21), .val (.int (1 : Int32)), .val (.long mu1), .second, .val (.long (mu1 + mu2)), .second] []) _
        obtain ⟨fs65, fc65, fm65, AS65, DS65, AC65, DC65, AM65, DM65⟩ := B65
        refine own_iload X65 hx (pc' := 267) rfl (hb hby at_265) rfl ?_
        refine own_ifF X65 hx (pc' := 270) rfl (hb hby at_267) (XT.i0_eq_f (by decide)) ?_
        refine own_aload X65 hx (pc' := 272) rfl (hb hby at_270) rfl rfl ?_
        refine own_callV X65 hx hZ (y := (⟨"com/example/ferrule/ferrule/matrix/CompensatedSums", "magnitude", "()D"⟩ : MethodName)) hown (hw _ (List.mem_of_getElem? (i := 14) rfl)) (hw _ (List.mem_of_getElem? (i := 15) rfl)) (hw _ (List.mem_of_getElem? (i := 17) rfl)) (hw _ (List.mem_of_getElem? (i := 16) rfl)) (hw _ (List.mem_of_getElem? (i := 3) rfl)) (hw _ (List.mem_of_getElem? (i := 18) rfl)) Exa_68  (by decide) (rm_mag l Z a0 hw [] aM52 n fm65 (own_addG (own_addG own_zf (own_w4 p1 p2 p3 p4) cn1) (own_w4 p1 p2 p3 p4) cn2) o21 h65 n0 Siz_66 Exa_68 Fld_71 AM65 DM65 (own_gB.mono (own_addGB (own_addGB own_gB0 (own_w4B p1 p2 p3 p4) (Nat.le_trans hm1n hz4)) (own_w4B p1 p2 p3 p4) (Nat.le_trans hm2n hz4)) (by decide)) hn) (by decide) (W := 0) (by decide) (by decide) (by decide) e65 (by rw [hml]; rfl) (argsL := []) (rest := []) rfl (lenOf pd___D rfl) rfl (Nat.le_of_eq rfl) (pc' := 275) rfl (hb hby at_272) ?_
        rintro _ T75 L75 X75 ⟨r75, rfl, hr75, N75, e75⟩
        have M75 := Fr.app M65 N75
        show own_Goes p e below T75 (mkF m 275 #[.val (.int p1), .val (.int p2), .val (.int p3), .val (.int p4), .val (.int p5), .val (.int p6), .val (.int nn), .val (.int s1), .val (.int kv), .val (.int s2), .val (.int cv1), .val (.int s3), .val (.int cv2), .val (.ref o7), .val (.ref o21), .val (.int (1 : Int32)), .val (.long mu1), .second, .val (.long (mu1 + mu2)), .second] [(.double r75)]) _
        refine own_lload X75 hx (pc' := 277) rfl (hb hby at_275) rfl ?_
        refine own_l2d X75 hx (v := (FP.l2d (mu1 + mu2))) (pc' := 278) rfl (hb hby at_277) rfl ?_
        refine own_dcmp X75 hx (v := (0 : Int32)) (pc' := 279) rfl (hb hby at_278) (own_eqv hr75 (by rw [own_m11 hu1.2.1 hu1.2.2 hu2.2.1 hu2.2.2, hu2.1, hu1.1, own_sum0]; omega) (own_sumN (own_gB.mono (own_addGB (own_addGB own_gB0 (own_w4B p1 p2 p3 p4) (Nat.le_trans hm1n hz4)) (own_w4B p1 p2 p3 p4) (Nat.le_trans hm2n hz4)) (by decide)) hz4) _) ?_
        refine own_ifF X75 hx (pc' := 282) rfl (hb hby at_279) (XT.i0_ne_f (by decide)) ?_
        refine own_iconst X75 hx (v := (1 : Int32)) (pc' := 283) rfl (hb hby at_282) rfl ?_
        refine own_goto X75 hx (pc' := 287) (hb hby at_283) (by decide) (by decide) ?_
        refine own_istore X75 hx (Ls' := #[.val (.int p1), .val (.int p2), .val (.int p3), .val (.int p4), .val (.int p5), .val (.int p6), .val (.int nn), .val (.int s1), .val (.int kv), .val (.int s2), .val (.int cv1), .val (.int s3), .val (.int cv2), .val (.ref o7), .val (.ref o21), .val (.int (1 : Int32)), .val (.long mu1), .second, .val (.long (mu1 + mu2)), .second]) (pc' := 289) rfl (hb hby at_287) rfl ?_
        refine own_iload X75 hx (pc' := 291) rfl (hb hby at_289) rfl ?_
        refine own_zret X75 hx hlk hret (by simp) (hb hby at_291) (by decide) (by decide) ?_
        rw [e75]
        exact ⟨rfl, M75⟩
  · refine own_ifF X34 hx (pc' := 160) rfl (hb hby at_157) (XT.i0_eq_f c157_35) ?_
    refine own_aload X34 hx (pc' := 162) rfl (hb hby at_160) rfl rfl ?_
    refine own_iload X34 hx (pc' := 164) rfl (hb hby at_162) rfl ?_
    refine own_iload X34 hx (pc' := 166) rfl (hb hby at_164) rfl ?_
    refine own_i2d X34 hx (v := (FP.i2d p5)) (pc' := 167) rfl (hb hby at_166) rfl ?_
    refine own_callV X34 hx hZ (y := (⟨"com/example/ferrule/ferrule/matrix/CompensatedSums", "add", "(ID)V"⟩ : MethodName)) hown (hw _ (List.mem_of_getElem? (i := 21) rfl)) (hw _ (List.mem_of_getElem? (i := 22) rfl)) (hw _ (List.mem_of_getElem? (i := 24) rfl)) (hw _ (List.mem_of_getElem? (i := 23) rfl)) (hw _ (List.mem_of_getElem? (i := 3) rfl)) (hw _ (List.mem_of_getElem? (i := 25) rfl)) Exa_30  (by decide) (rm_add1 l Z a0 hw [] aS aC n (fun _ => (.double (0 : UInt64))) (fun _ => (.double (0 : UInt64))) _ _ _ o21 kv (FP.i2d p5) h27 n0 Siz_28 Exa_30 FS FC AS AC (Nat.le_trans Siz_22 gS) (Nat.le_trans Siz_22 gC) nSC ne_o21_aS ne_o21_aC DS DC (by decide) (own_fI p5).1 (own_fI p5).2 hk0 hk1 hk2) (by decide) (W := 0) (by decide) (by decide) (by decide) e34 (by rw [hml]; rfl) (argsL := [(.int kv), (.double (FP.i2d p5))]) (rest := []) rfl (lenOf pd__ID_V rfl) rfl (Nat.le_of_eq rfl) (pc' := 170) rfl (hb hby at_167) ?_
    rintro _ T76 L76 X76 ⟨rfl, N76, K76, B76⟩
    have M76 := Fr.app M34 N76
    obtain ⟨h76, e76⟩ : ∃ z, T76.heap = z := ⟨_, rfl⟩
    rw [e76] at K76 B76
    have Siz_77 := Nat.le_trans Siz_28 K76.1
    have Arr_78 := own_Arr.keep K76 Arr_29 (ninS ne_o7_aS (ninS ne_o7_aC nin0))
    have Exa_79 := Exa_30.keep K76
    have Fld_80 := FS.keep K76 (ninS ne_o21_aS (ninS ne_o21_aC nin0))
    have Fld_81 := FC.keep K76 (ninS ne_o21_aS (ninS ne_o21_aC nin0))
    have Fld_82 := FM.keep K76 (ninS ne_o21_aS (ninS ne_o21_aC nin0))
    show own_Goes p e below T76 (mkF m 170 #[.val (.int p1), .val (.int p2), .val (.int p3), .val (.int p4), .val (.int p5), .val (.int p6), .val (.int nn), .val (.int s1), .val (.int kv), .val (.int s2), .val (.int cv1), .val (.int s3), .val (.int cv2), .val (.ref o7), .val (.ref o21), .val (.int (1 : Int32)), .unset, .unset, .unset, .unset] []) _
    obtain ⟨fs76, fc76, AS76, DS76, AC76, DC76⟩ := B76
    refine own_iload X76 hx (pc' := 172) rfl (hb hby at_170) rfl ?_
    by_cases c172_85 : s2 = 0
    · refine own_ifT X76 hx (pc' := 187) (hb hby at_172) (XT.i0_eq_t c172_85) (by decide) (by decide) ?_
      refine own_lconst X76 hx (v := (0 : Int64)) (pc' := 188) rfl (hb hby at_187) rfl ?_
      refine own_lstore X76 hx (Ls' := #[.val (.int p1), .val (.int p2), .val (.int p3), .val (.int p4), .val (.int p5), .val (.int p6), .val (.int nn), .val (.int s1), .val (.int kv), .val (.int s2), .val (.int cv1), .val (.int s3), .val (.int cv2), .val (.ref o7), .val (.ref o21), .val (.int (1 : Int32)), .val (.long (0 : Int64)), .second, .unset, .unset]) (pc' := 190) rfl (hb hby at_188) rfl ?_
      refine own_iload X76 hx (pc' := 192) rfl (hb hby at_190) rfl ?_
      refine own_ifT X76 hx (pc' := 204) (hb hby at_192) (XT.i0_eq_t c172_85) (by decide) (by decide) ?_
      refine own_iload X76 hx (pc' := 206) rfl (hb hby at_204) rfl ?_
      refine own_ifF X76 hx (pc' := 209) rfl (hb hby at_206) (XT.i0_eq_f (by decide)) ?_
      refine own_aload X76 hx (pc' := 211) rfl (hb hby at_209) rfl rfl ?_
      refine own_callV X76 hx hZ (y := (⟨"com/example/ferrule/ferrule/matrix/CompensatedSums", "magnitude", "()D"⟩ : MethodName)) hown (hw _ (List.mem_of_getElem? (i := 14) rfl)) (hw _ (List.mem_of_getElem? (i := 15) rfl)) (hw _ (List.mem_of_getElem? (i := 17) rfl)) (hw _ (List.mem_of_getElem? (i := 16) rfl)) (hw _ (List.mem_of_getElem? (i := 3) rfl)) (hw _ (List.mem_of_getElem? (i := 18) rfl)) Exa_79  (by decide) (rm_mag0 l Z a0 hw [] o21 h76 n0 Siz_77 Exa_79 Fld_82) (by decide) (W := 0) (by decide) (by decide) (by decide) e76 (by rw [hml]; rfl) (argsL := []) (rest := []) rfl (lenOf pd___D rfl) rfl (Nat.le_of_eq rfl) (pc' := 214) rfl (hb hby at_211) ?_
      rintro _ T86 L86 X86 ⟨rfl, N86, e86⟩
      have M86 := Fr.app M76 N86
      show own_Goes p e below T86 (mkF m 214 #[.val (.int p1), .val (.int p2), .val (.int p3), .val (.int p4), .val (.int p5), .val (.int p6), .val (.int nn), .val (.int s1), .val (.int kv), .val (.int s2), .val (.int cv1), .val (.int s3), .val (.int cv2), .val (.ref o7), .val (.ref o21), .val (.int (1 : Int32)), .val (.long (0 : Int64)), .second, .unset, .unset] [(.double FP.dconst0)]) _
      refine own_lload X86 hx (pc' := 216) rfl (hb hby at_214) rfl ?_
      refine own_l2d X86 hx (v := (FP.l2d (0 : Int64))) (pc' := 217) rfl (hb hby at_216) rfl ?_
      refine own_dcmp X86 hx (v := (0 : Int32)) (pc' := 218) rfl (hb hby at_217) (own_eqv own_dc0 rfl (by decide) _) ?_
      refine own_ifF X86 hx (pc' := 221) rfl (hb hby at_218) (XT.i0_ne_f (by decide)) ?_
      refine own_iconst X86 hx (v := (1 : Int32)) (pc' := 222) rfl (hb hby at_221) rfl ?_
      refine own_goto X86 hx (pc' := 226) (hb hby at_222) (by decide) (by decide) ?_
      refine own_istore X86 hx (Ls' := #[.val (.int p1), .val (.int p2), .val (.int p3), .val (.int p4), .val (.int p5), .val (.int p6), .val (.int nn), .val (.int s1), .val (.int kv), .val (.int s2), .val (.int cv1), .val (.int s3), .val (.int cv2), .val (.ref o7), .val (.ref o21), .val (.int (1 : Int32)), .val (.long (0 : Int64)), .second, .unset, .unset]) (pc' := 228) rfl (hb hby at_226) rfl ?_
      refine own_lload X86 hx (pc' := 230) rfl (hb hby at_228) rfl ?_
      refine own_iload X86 hx (pc' := 232) rfl (hb hby at_230) rfl ?_
      by_cases c232_87 : s3 = 0
      · refine own_ifT X86 hx (pc' := 247) (hb hby at_232) (XT.i0_eq_t c232_87) (by decide) (by decide) ?_
        refine own_lconst X86 hx (v := (0 : Int64)) (pc' := 248) rfl (hb hby at_247) rfl ?_
        refine own_ladd X86 hx (v := (0 : Int64)) (pc' := 249) rfl (hb hby at_248) (by decide) ?_
        refine own_lstore X86 hx (Ls' := #[.val (.int p1), .val (.int p2), .val (.int p3), .val (.int p4), .val (.int p5), .val (.int p6), .val (.int nn), .val (.int s1), .val (.int kv), .val (.int s2), .val (.int cv1), .val (.int s3), .val (.int cv2), .val (.ref o7), .val (.ref o21), .val (.int (1 : Int32)), .val (.long (0 : Int64)), .second, .val (.long (0 : Int64)), .second]) (pc' := 251) rfl (hb hby at_249) rfl ?_
        refine own_iload X86 hx (pc' := 253) rfl (hb hby at_251) rfl ?_
        refine own_ifT X86 hx (pc' := 265) (hb hby at_253) (XT.i0_eq_t c232_87) (by decide) (by decide) ?_
        refine own_iload X86 hx (pc' := 267) rfl (hb hby at_265) rfl ?_
        refine own_ifF X86 hx (pc' := 270) rfl (hb hby at_267) (XT.i0_eq_f (by decide)) ?_
        refine own_aload X86 hx (pc' := 272) rfl (hb hby at_270) rfl rfl ?_
        refine own_callV X86 hx hZ (y := (⟨"com/example/ferrule/ferrule/matrix/CompensatedSums", "magnitude", "()D"⟩ : MethodName)) hown (hw _ (List.mem_of_getElem? (i := 14) rfl)) (hw _ (List.mem_of_getElem? (i := 15) rfl)) (hw _ (List.mem_of_getElem? (i := 17) rfl)) (hw _ (List.mem_of_getElem? (i := 16) rfl)) (hw _ (List.mem_of_getElem? (i := 3) rfl)) (hw _ (List.mem_of_getElem? (i := 18) rfl)) Exa_79  (by decide) (rm_mag0 l Z a0 hw [] o21 h76 n0 Siz_77 Exa_79 Fld_82) (by decide) (W := 0) (by decide) (by decide) (by decide) e86 (by rw [hml]; rfl) (argsL := []) (rest := []) rfl (lenOf pd___D rfl) rfl (Nat.le_of_eq rfl) (pc' := 275) rfl (hb hby at_272) ?_
        rintro _ T88 L88 X88 ⟨rfl, N88, e88⟩
        have M88 := Fr.app M86 N88
        show own_Goes p e below T88 (mkF m 275 #[.val (.int p1), .val (.int p2), .val (.int p3), .val (.int p4), .val (.int p5), .val (.int p6), .val (.int nn), .val (.int s1), .val (.int kv), .val (.int s2), .val (.int cv1), .val (.int s3), .val (.int cv2), .val (.ref o7), .val (.ref o21), .val (.int (1 : Int32)), .val (.long (0 : Int64)), .second, .val (.long (0 : Int64)), .second] [(.double FP.dconst0)]) _
        refine own_lload X88 hx (pc' := 277) rfl (hb hby at_275) rfl ?_
        refine own_l2d X88 hx (v := (FP.l2d (0 : Int64))) (pc' := 278) rfl (hb hby at_277) rfl ?_
        refine own_dcmp X88 hx (v := (0 : Int32)) (pc' := 279) rfl (hb hby at_278) (own_eqv own_dc0 rfl (by decide) _) ?_
        refine own_ifF X88 hx (pc' := 282) rfl (hb hby at_279) (XT.i0_ne_f (by decide)) ?_
        refine own_iconst X88 hx (v := (1 : Int32)) (pc' := 283) rfl (hb hby at_282) rfl ?_
        refine own_goto X88 hx (pc' := 287) (hb hby at_283) (by decide) (by decide) ?_
        refine own_istore X88 hx (Ls' := #[.val (.int p1), .val (.int p2), .val (.int p3), .val (.int p4), .val (.int p5), .val (.int p6), .val (.int nn), .val (.int s1), .val (.int kv), .val (.int s2), .val (.int cv1), .val (.int s3), .val (.int cv2), .val (.ref o7), .val (.ref o21), .val (.int (1 : Int32)), .val (.long (0 : Int64)), .second, .val (.long (0 : Int64)), .second]) (pc' := 289) rfl (hb hby at_287) rfl ?_
        refine own_iload X88 hx (pc' := 291) rfl (hb hby at_289) rfl ?_
        refine own_zret X88 hx hlk hret (by simp) (hb hby at_291) (by decide) (by decide) ?_
        rw [e88]
        exact ⟨rfl, M88⟩
      · refine own_ifF X86 hx (pc' := 235) rfl (hb hby at_232) (XT.i0_eq_f c232_87) ?_
        refine own_iloadN X86 hx (pc' := 236) rfl (hb hby at_235) rfl ?_
        refine own_iloadN X86 hx (pc' := 237) rfl (hb hby at_236) rfl ?_
        refine own_iloadN X86 hx (pc' := 238) rfl (hb hby at_237) rfl ?_
        refine own_iloadN X86 hx (pc' := 239) rfl (hb hby at_238) rfl ?_
        refine own_iload X86 hx (pc' := 241) rfl (hb hby at_239) rfl ?_
        refine own_callS X86 hx hZ (y := (⟨"com/example/ferrule/ferrule/matrix/CompensatedSumsMagnitudePinLaw", "upTo", "(IIIII)J"⟩ : MethodName)) hown (hw _ (List.mem_of_getElem? (i := 34) rfl)) (hw _ (List.mem_of_getElem? (i := 35) rfl)) (hw _ (List.mem_of_getElem? (i := 36) rfl)) (hw _ (List.mem_of_getElem? (i := 37) rfl))  (by decide) (rm_upTo l Z a0 hw [] p1 p2 p3 p4 cv2 h76 n0 Siz_77) (by decide) (W := 2) (by decide) (by decide) (by decide) e86 (by rw [hml]; rfl) (argsL := [(.int p1), (.int p2), (.int p3), (.int p4), (.int cv2)]) (rest := [(.long (0 : Int64))]) rfl (lenOf pd__IIIII_J rfl) rfl (Nat.le_of_eq rfl) (pc' := 244) rfl (hb hby at_241) ?_
        rintro _ T89 L89 X89 ⟨rfl, N89, e89⟩
        have M89 := Fr.app M86 N89
        show own_Goes p e below T89 (mkF m 244 #[.val (.int p1), .val (.int p2), .val (.int p3), .val (.int p4), .val (.int p5), .val (.int p6), .val (.int nn), .val (.int s1), .val (.int kv), .val (.int s2), .val (.int cv1), .val (.int s3), .val (.int cv2), .val (.ref o7), .val (.ref o21), .val (.int (1 : Int32)), .val (.long (0 : Int64)), .second, .unset, .unset] [(.long (own_upTo p1 p2 p3 p4 cv2)), (.long (0 : Int64))]) _
        refine own_goto X89 hx (pc' := 248) (hb hby at_244) (by decide) (by decide) ?_
        have hu2 := own_up p1 p2 p3 p4 hm2 hm2n hz4
        generalize (own_upTo p1 p2 p3 p4 cv2) = mu2 at hu2 ⊢
        refine own_ladd X89 hx (v := ((0 : Int64) + mu2)) (pc' := 249) rfl (hb hby at_248) rfl ?_
        refine own_lstore X89 hx (Ls' := #[.val (.int p1), .val (.int p2), .val (.int p3), .val (.int p4), .val (.int p5), .val (.int p6), .val (.int nn), .val (.int s1), .val (.int kv), .val (.int s2), .val (.int cv1), .val (.int s3), .val (.int cv2), .val (.ref o7), .val (.ref o21), .val (.int (1 : Int32)), .val (.long (0 : Int64)), .second, .val (.long ((0 : Int64) + mu2)), .second]) (pc' := 251) rfl (hb hby at_249) rfl ?_
        refine own_iload X89 hx (pc' := 253) rfl (hb hby at_251) rfl ?_
        refine own_ifF X89 hx (pc' := 256) rfl (hb hby at_253) (XT.i0_eq_f c232_87) ?_
        refine own_aload X89 hx (pc' := 258) rfl (hb hby at_256) rfl rfl ?_
        refine own_aload X89 hx (pc' := 260) rfl (hb hby at_258) rfl rfl ?_
        refine own_iload X89 hx (pc' := 262) rfl (hb hby at_260) rfl ?_
        refine own_callV X89 hx hZ (y := (⟨"com/example/ferrule/ferrule/matrix/CompensatedSums", "add", "([DI)V"⟩ : MethodName)) hown (hw _ (List.mem_of_getElem? (i := 44) rfl)) (hw _ (List.mem_of_getElem? (i := 45) rfl)) (hw _ (List.mem_of_getElem? (i := 47) rfl)) (hw _ (List.mem_of_getElem? (i := 46) rfl)) (hw _ (List.mem_of_getElem? (i := 3) rfl)) (hw _ (List.mem_of_getElem? (i := 48) rfl)) Exa_79  (by decide) (rm_addN l Z a0 hw [] aS aC n fs76 fc76 _ (own_upd (own_upd (own_upd (own_upd (fun _ => (.double (0 : UInt64))) 0 (.double (FP.l2d p1.toInt64))) 1 (.double (FP.l2d p2.toInt64))) 2 (.double (FP.l2d p3.toInt64))) 3 (.double (FP.l2d p4.toInt64))) _ _ _ o21 o7 cv2 h76 n0 Siz_77 Exa_79 Fld_80 Fld_81 Fld_82 AS76 AC76 Arr_78 ge21 (Nat.le_trans Siz_22 gS) (Nat.le_trans Siz_22 gC) ne_o21_aS ne_o21_aC (Ne.symm ne21_o7) nSC ne_o7_aS ne_o7_aC DS76 DC76 hV (by decide) hm2 hm2n hz2 hz0 hz1 hz4) (by decide) (W := 0) (by decide) (by decide) (by decide) e89 (by rw [hml]; rfl) (argsL := [(.ref o7), (.int cv2)]) (rest := []) rfl (lenOf pd___DI_V rfl) rfl (Nat.le_of_eq rfl) (pc' := 265) rfl (hb hby at_262) ?_
        rintro _ T90 L90 X90 ⟨rfl, N90, K90, B90⟩
        have M90 := Fr.app M89 N90
        obtain ⟨h90, e90⟩ : ∃ z, T90.heap = z := ⟨_, rfl⟩
        rw [e90] at K90 B90
        have Siz_91 := Nat.le_trans Siz_77 K90.1
        have Arr_92 := own_Arr.keep K90 Arr_78 (ninS ne21_o7 (ninS ne_o7_aS (ninS ne_o7_aC nin0)))
        have Exa_93 := Exa_79.keep K90
        show own_Goes p e below T90 (mkF m 265 #[.val (.int p1), .val (.int p2), .val (.int p3), .val (.int p4), .val (.int p5), .val (.int p6), .val (.int nn), .val (.int s1), .val (.int kv), .val (.int s2), .val (.int cv1), .val (.int s3), .val (.int cv2), .val (.ref o7), .val (.ref o21), .val (.int (1 : Int32)), .val (.long (0 : Int64)), .second, .val (.long ((0 : Int64) + mu2)), .second] []) _
        obtain ⟨aM90, fs90, fc90, fm90, FS90, FC90, FM90, AS90, DS90, AC90, DC90, AM90, DM90, gM90⟩ := B90
        have ne_o7_aM90 : o7 ≠ aM90 := Nat.ne_of_lt (Nat.lt_of_lt_of_le (own_Arr.lt Arr_78) gM90)
        have ne_o21_aM90 : o21 ≠ aM90 := Nat.ne_of_lt (Nat.lt_of_lt_of_le Exa_79.lt gM90)
        have ne_aS_aM90 : aS ≠ aM90 := Nat.ne_of_lt (Nat.lt_of_lt_of_le (own_Arr.lt AS76) gM90)
        have ne_aC_aM90 : aC ≠ aM90 := Nat.ne_of_lt (Nat.lt_of_lt_of_le (own_Arr.lt AC76) gM90)
        refine own_iload X90 hx (pc' := 267) rfl (hb hby at_265) rfl ?_
        refine own_ifF X90 hx (pc' := 270) rfl (hb hby at_267) (XT.i0_eq_f (by decide)) ?_
        refine own_aload X90 hx (pc' := 272) rfl (hb hby at_270) rfl rfl ?_
        refine own_callV X90 hx hZ (y := (⟨"com/example/ferrule/ferrule/matrix/CompensatedSums", "magnitude", "()D"⟩ : MethodName)) hown (hw _ (List.mem_of_getElem? (i := 14) rfl)) (hw _ (List.mem_of_getElem? (i := 15) rfl)) (hw _ (List.mem_of_getElem? (i := 17) rfl)) (hw _ (List.mem_of_getElem? (i := 16) rfl)) (hw _ (List.mem_of_getElem? (i := 3) rfl)) (hw _ (List.mem_of_getElem? (i := 18) rfl)) Exa_93  (by decide) (rm_mag l Z a0 hw [] aM90 n fm90 (own_addG own_zf (own_w4 p1 p2 p3 p4) cn2) o21 h90 n0 Siz_91 Exa_93 FM90 AM90 DM90 (own_gB.mono (own_addGB own_gB0 (own_w4B p1 p2 p3 p4) (Nat.le_trans hm2n hz4)) (by decide)) hn) (by decide) (W := 0) (by decide) (by decide) (by decide) e90 (by rw [hml]; rfl) (argsL := []) (rest := []) rfl (lenOf pd___D rfl) rfl (Nat.le_of_eq rfl) (pc' := 275) rfl (hb hby at_272) ?_
        rintro _ T99 L99 X99 ⟨r99, rfl, hr99, N99, e99⟩
        have M99 := Fr.app M90 N99
        show own_Goes p e below T99 (mkF m 275 #[.val (.int p1), .val (.int p2), .val (.int p3), .val (.int p4), .val (.int p5), .val (.int p6), .val (.int nn), .val (.int s1), .val (.int kv), .val (.int s2), .val (.int cv1), .val (.int s3), .val (.int cv2), .val (.ref o7), .val (.ref o21), .val (.int (1 : Int32)), .val (.long (0 : Int64)), .second, .val (.long ((0 : Int64) + mu2)), .second] [(.double r99)]) _
        refine own_lload X99 hx (pc' := 277) rfl (hb hby at_275) rfl ?_
        refine own_l2d X99 hx (v := (FP.l2d ((0 : Int64) + mu2))) (pc' := 278) rfl (hb hby at_277) rfl ?_
        refine own_dcmp X99 hx (v := (0 : Int32)) (pc' := 279) rfl (hb hby at_278) (own_eqv hr99 (by rw [own_m01 hu2.2.1 hu2.2.2, hu2.1, own_sum0]; omega) (own_sumN (own_gB.mono (own_addGB own_gB0 (own_w4B p1 p2 p3 p4) (Nat.le_trans hm2n hz4)) (by decide)) hz4) _) ?_
        refine own_ifF X99 hx (pc' := 282) rfl (hb hby at_279) (XT.i0_ne_f (by decide)) ?_
        refine own_iconst X99 hx (v := (1 : Int32)) (pc' := 283) rfl (hb hby at_282) rfl ?_
        refine own_goto X99 hx (pc' := 287) (hb hby at_283) (by decide) (by decide) ?_
        refine own_istore X99 hx (Ls' := #[.val (.int p1), .val (.int p2), .val (.int p3), .val (.int p4), .val (.int p5), .val (.int p6), .val (.int nn), .val (.int s1), .val (.int kv), .val (.int s2), .val (.int cv1), .val (.int s3), .val (.int cv2), .val (.ref o7), .val (.ref o21), .val (.int (1 : Int32)), .val (.long (0 : Int64)), .second, .val (.long ((0 : Int64) + mu2)), .second]) (pc' := 289) rfl (hb hby at_287) rfl ?_
        refine own_iload X99 hx (pc' := 291) rfl (hb hby at_289) rfl ?_
        refine own_zret X99 hx hlk hret (by simp) (hb hby at_291) (by decide) (by decide) ?_
        rw [e99]
        exact ⟨rfl, M99⟩
    · refine own_ifF X76 hx (pc' := 175) rfl (hb hby at_172) (XT.i0_eq_f c172_85) ?_
      refine own_iloadN X76 hx (pc' := 176) rfl (hb hby at_175) rfl ?_
      refine own_iloadN X76 hx (pc' := 177) rfl (hb hby at_176) rfl ?_
      refine own_iloadN X76 hx (pc' := 178) rfl (hb hby at_177) rfl ?_
      refine own_iloadN X76 hx (pc' := 179) rfl (hb hby at_178) rfl ?_
      refine own_iload X76 hx (pc' := 181) rfl (hb hby at_179) rfl ?_
      refine own_callS X76 hx hZ (y := (⟨"com/example/ferrule/ferrule/matrix/CompensatedSumsMagnitudePinLaw", "upTo", "(IIIII)J"⟩ : MethodName)) hown (hw _ (List.mem_of_getElem? (i := 34) rfl)) (hw _ (List.mem_of_getElem? (i := 35) rfl)) (hw _ (List.mem_of_getElem? (i := 36) rfl)) (hw _ (List.mem_of_getElem? (i := 37) rfl))  (by decide) (rm_upTo l Z a0 hw [] p1 p2 p3 p4 cv1 h76 n0 Siz_77) (by decide) (W := 0) (by decide) (by decide) (by decide) e76 (by rw [hml]; rfl) (argsL := [(.int p1), (.int p2), (.int p3), (.int p4), (.int cv1)]) (rest := []) rfl (lenOf pd__IIIII_J rfl) rfl (Nat.le_of_eq rfl) (pc' := 184) rfl (hb hby at_181) ?_
      rintro _ T100 L100 X100 ⟨rfl, N100, e100⟩
      have M100 := Fr.app M76 N100
      show own_Goes p e below T100 (mkF m 184 #[.val (.int p1), .val (.int p2), .val (.int p3), .val (.int p4), .val (.int p5), .val (.int p6), .val (.int nn), .val (.int s1), .val (.int kv), .val (.int s2), .val (.int cv1), .val (.int s3), .val (.int cv2), .val (.ref o7), .val (.ref o21), .val (.int (1 : Int32)), .unset, .unset, .unset, .unset] [(.long (own_upTo p1 p2 p3 p4 cv1))]) _
      refine own_goto X100 hx (pc' := 188) (hb hby at_184) (by decide) (by decide) ?_
      have hu1 := own_up p1 p2 p3 p4 hm1 hm1n hz4
      generalize (own_upTo p1 p2 p3 p4 cv1) = mu1 at hu1 ⊢
      refine own_lstore X100 hx (Ls' := #[.val (.int p1), .val (.int p2), .val (.int p3), .val (.int p4), .val (.int p5), .val (.int p6), .val (.int nn), .val (.int s1), .val (.int kv), .val (.int s2), .val (.int cv1), .val (.int s3), .val (.int cv2), .val (.ref o7), .val (.ref o21), .val (.int (1 : Int32)), .val (.long mu1), .second, .unset, .unset]) (pc' := 190) rfl (hb hby at_188) rfl ?_
      refine own_iload X100 hx (pc' := 192) rfl (hb hby at_190) rfl ?_
      refine own_ifF X100 hx (pc' := 195) rfl (hb hby at_192) (XT.i0_eq_f c172_85) ?_
      refine own_aload X100 hx (pc' := 197) rfl (hb hby at_195) rfl rfl ?_
      refine own_aload X100 hx (pc' := 199) rfl (hb hby at_197) rfl rfl ?_
      refine own_iload X100 hx (pc' := 201) rfl (hb hby at_199) rfl ?_
      refine own_callV X100 hx hZ (y := (⟨"com/example/ferrule/ferrule/matrix/CompensatedSums", "add", "([DI)V"⟩ : MethodName)) hown (hw _ (List.mem_of_getElem? (i := 44) rfl)) (hw _ (List.mem_of_getElem? (i := 45) rfl)) (hw _ (List.mem_of_getElem? (i := 47) rfl)) (hw _ (List.mem_of_getElem? (i := 46) rfl)) (hw _ (List.mem_of_getElem? (i := 3) rfl)) (hw _ (List.mem_of_getElem? (i := 48) rfl)) Exa_79  (by decide) (rm_addN l Z a0 hw [] aS aC n fs76 fc76 _ (own_upd (own_upd (own_upd (own_upd (fun _ => (.double (0 : UInt64))) 0 (.double (FP.l2d p1.toInt64))) 1 (.double (FP.l2d p2.toInt64))) 2 (.double (FP.l2d p3.toInt64))) 3 (.double (FP.l2d p4.toInt64))) _ _ _ o21 o7 cv1 h76 n0 Siz_77 Exa_79 Fld_80 Fld_81 Fld_82 AS76 AC76 Arr_78 ge21 (Nat.le_trans Siz_22 gS) (Nat.le_trans Siz_22 gC) ne_o21_aS ne_o21_aC (Ne.symm ne21_o7) nSC ne_o7_aS ne_o7_aC DS76 DC76 hV (by decide) hm1 hm1n hz2 hz0 hz1 hz4) (by decide) (W := 0) (by decide) (by decide) (by decide) e100 (by rw [hml]; rfl) (argsL := [(.ref o7), (.int cv1)]) (rest := []) rfl (lenOf pd___DI_V rfl) rfl (Nat.le_of_eq rfl) (pc' := 204) rfl (hb hby at_201) ?_
      rintro _ T101 L101 X101 ⟨rfl, N101, K101, B101⟩
      have M101 := Fr.app M100 N101
      obtain ⟨h101, e101⟩ : ∃ z, T101.heap = z := ⟨_, rfl⟩
      rw [e101] at K101 B101
      have Siz_102 := Nat.le_trans Siz_77 K101.1
      have Arr_103 := own_Arr.keep K101 Arr_78 (ninS ne21_o7 (ninS ne_o7_aS (ninS ne_o7_aC nin0)))
      have Exa_104 := Exa_79.keep K101
      show own_Goes p e below T101 (mkF m 204 #[.val (.int p1), .val (.int p2), .val (.int p3), .val (.int p4), .val (.int p5), .val (.int p6), .val (.int nn), .val (.int s1), .val (.int kv), .val (.int s2), .val (.int cv1), .val (.int s3), .val (.int cv2), .val (.ref o7), .val (.ref o21), .val (.int (1 : Int32)), .val (.long mu1), .second, .unset, .unset] []) _
      obtain ⟨aM101, fs101, fc101, fm101, FS101, FC101, FM101, AS101, DS101, AC101, DC101, AM101, DM101, gM101⟩ := B101
      have ne_o7_aM101 : o7 ≠ aM101 := Nat.ne_of_lt (Nat.lt_of_lt_of_le (own_Arr.lt Arr_78) gM101)
      have ne_o21_aM101 : o21 ≠ aM101 := Nat.ne_of_lt (Nat.lt_of_lt_of_le Exa_79.lt gM101)
      have ne_aS_aM101 : aS ≠ aM101 := Nat.ne_of_lt (Nat.lt_of_lt_of_le (own_Arr.lt AS76) gM101)
      have ne_aC_aM101 : aC ≠ aM101 := Nat.ne_of_lt (Nat.lt_of_lt_of_le (own_Arr.lt AC76) gM101)
      refine own_iload X101 hx (pc' := 206) rfl (hb hby at_204) rfl ?_
      refine own_ifF X101 hx (pc' := 209) rfl (hb hby at_206) (XT.i0_eq_f (by decide)) ?_
      refine own_aload X101 hx (pc' := 211) rfl (hb hby at_209) rfl rfl ?_
      refine own_callV X101 hx hZ (y := (⟨"com/example/ferrule/ferrule/matrix/CompensatedSums", "magnitude", "()D"⟩ : MethodName)) hown (hw _ (List.mem_of_getElem? (i := 14) rfl)) (hw _ (List.mem_of_getElem? (i := 15) rfl)) (hw _ (List.mem_of_getElem? (i := 17) rfl)) (hw _ (List.mem_of_getElem? (i := 16) rfl)) (hw _ (List.mem_of_getElem? (i := 3) rfl)) (hw _ (List.mem_of_getElem? (i := 18) rfl)) Exa_104  (by decide) (rm_mag l Z a0 hw [] aM101 n fm101 (own_addG own_zf (own_w4 p1 p2 p3 p4) cn1) o21 h101 n0 Siz_102 Exa_104 FM101 AM101 DM101 (own_gB.mono (own_addGB own_gB0 (own_w4B p1 p2 p3 p4) (Nat.le_trans hm1n hz4)) (by decide)) hn) (by decide) (W := 0) (by decide) (by decide) (by decide) e101 (by rw [hml]; rfl) (argsL := []) (rest := []) rfl (lenOf pd___D rfl) rfl (Nat.le_of_eq rfl) (pc' := 214) rfl (hb hby at_211) ?_
      rintro _ T110 L110 X110 ⟨r110, rfl, hr110, N110, e110⟩
      have M110 := Fr.app M101 N110
      show own_Goes p e below T110 (mkF m 214 #[.val (.int p1), .val (.int p2), .val (.int p3), .val (.int p4), .val (.int p5), .val (.int p6), .val (.int nn), .val (.int s1), .val (.int kv), .val (.int s2), .val (.int cv1), .val (.int s3), .val (.int cv2), .val (.ref o7), .val (.ref o21), .val (.int (1 : Int32)), .val (.long mu1), .second, .unset, .unset] [(.double r110)]) _
      refine own_lload X110 hx (pc' := 216) rfl (hb hby at_214) rfl ?_
      refine own_l2d X110 hx (v := (FP.l2d mu1)) (pc' := 217) rfl (hb hby at_216) rfl ?_
      refine own_dcmp X110 hx (v := (0 : Int32)) (pc' := 218) rfl (hb hby at_217) (own_eqv hr110 (by rw [hu1.1, own_sum0]; omega) (own_sumN (own_gB.mono (own_addGB own_gB0 (own_w4B p1 p2 p3 p4) (Nat.le_trans hm1n hz4)) (by decide)) hz4) _) ?_
      refine own_ifF X110 hx (pc' := 221) rfl (hb hby at_218) (XT.i0_ne_f (by decide)) ?_
      refine own_iconst X110 hx (v := (1 : Int32)) (pc' := 222) rfl (hb hby at_221) rfl ?_
      refine own_goto X110 hx (pc' := 226) (hb hby at_222) (by decide) (by decide) ?_
      refine own_istore X110 hx (Ls' := #[.val (.int p1), .val (.int p2), .val (.int p3), .val (.int p4), .val (.int p5), .val (.int p6), .val (.int nn), .val (.int s1), .val (.int kv), .val (.int s2), .val (.int cv1), .val (.int s3), .val (.int cv2), .val (.ref o7), .val (.ref o21), .val (.int (1 : Int32)), .val (.long mu1), .second, .unset, .unset]) (pc' := 228) rfl (hb hby at_226) rfl ?_
      refine own_lload X110 hx (pc' := 230) rfl (hb hby at_228) rfl ?_
      refine own_iload X110 hx (pc' := 232) rfl (hb hby at_230) rfl ?_
      by_cases c232_111 : s3 = 0
      · refine own_ifT X110 hx (pc' := 247) (hb hby at_232) (XT.i0_eq_t c232_111) (by decide) (by decide) ?_
        refine own_lconst X110 hx (v := (0 : Int64)) (pc' := 248) rfl (hb hby at_247) rfl ?_
        refine own_ladd X110 hx (v := (mu1 + (0 : Int64))) (pc' := 249) rfl (hb hby at_248) rfl ?_
        refine own_lstore X110 hx (Ls' := #[.val (.int p1), .val (.int p2), .val (.int p3), .val (.int p4), .val (.int p5), .val (.int p6), .val (.int nn), .val (.int s1), .val (.int kv), .val (.int s2), .val (.int cv1), .val (.int s3), .val (.int cv2), .val (.ref o7), .val (.ref o21), .val (.int (1 : Int32)), .val (.long mu1), .second, .val (.long (mu1 + (0 : Int64))), .second]) (pc' := 251) rfl (hb hby at_249) rfl ?_
        refine own_iload X110 hx (pc' := 253) rfl (hb hby at_251) rfl ?_
        refine own_ifT X110 hx (pc' := 265) (hb hby at_253) (XT.i0_eq_t c232_111) (by decide) (by decide) ?_
        refine own_iload X110 hx (pc' := 267) rfl (hb hby at_265) rfl ?_
        refine own_ifF X110 hx (pc' := 270) rfl (hb hby at_267) (XT.i0_eq_f (by decide)) ?_
        refine own_aload X110 hx (pc' := 272) rfl (hb hby at_270) rfl rfl ?_
        refine own_callV X110 hx hZ (y := (⟨"com/example/ferrule/ferrule/matrix/CompensatedSums", "magnitude", "()D"⟩ : MethodName)) hown (hw _ (List.mem_of_getElem? (i := 14) rfl)) (hw _ (List.mem_of_getElem? (i := 15) rfl)) (hw _ (List.mem_of_getElem? (i := 17) rfl)) (hw _ (List.mem_of_getElem? (i := 16) rfl)) (hw _ (List.mem_of_getElem? (i := 3) rfl)) (hw _ (List.mem_of_getElem? (i := 18) rfl)) Exa_104  (by decide) (rm_mag l Z a0 hw [] aM101 n fm101 (own_addG own_zf (own_w4 p1 p2 p3 p4) cn1) o21 h101 n0 Siz_102 Exa_104 FM101 AM101 DM101 (own_gB.mono (own_addGB own_gB0 (own_w4B p1 p2 p3 p4) (Nat.le_trans hm1n hz4)) (by decide)) hn) (by decide) (W := 0) (by decide) (by decide) (by decide) e110 (by rw [hml]; rfl) (argsL := []) (rest := []) rfl (lenOf pd___D rfl) rfl (Nat.le_of_eq rfl) (pc' := 275) rfl (hb hby at_272) ?_
        rintro _ T112 L112 X112 ⟨r112, rfl, hr112, N112, e112⟩
        have M112 := Fr.app M110 N112
        show own_Goes p e below T112 (mkF m 275 #[.val (.int p1), .val (.int p2), .val (.int p3), .val (.int p4), .val (.int p5), .val (.int p6), .val (.int nn), .val (.int s1), .val (.int kv), .val (.int s2), .val (.int cv1), .val (.int s3), .val (.int cv2), .val (.ref o7), .val (.ref o21), .val (.int (1 : Int32)), .val (.long mu1), .second, .val (.long (mu1 + (0 : Int64))), .second] [(.double r112)]) _
        refine own_lload X112 hx (pc' := 277) rfl (hb hby at_275) rfl ?_
        refine own_l2d X112 hx (v := (FP.l2d (mu1 + (0 : Int64)))) (pc' := 278) rfl (hb hby at_277) rfl ?_
        refine own_dcmp X112 hx (v := (0 : Int32)) (pc' := 279) rfl (hb hby at_278) (own_eqv hr112 (by rw [own_m10 hu1.2.1 hu1.2.2, hu1.1, own_sum0]; omega) (own_sumN (own_gB.mono (own_addGB own_gB0 (own_w4B p1 p2 p3 p4) (Nat.le_trans hm1n hz4)) (by decide)) hz4) _) ?_
        refine own_ifF X112 hx (pc' := 282) rfl (hb hby at_279) (XT.i0_ne_f (by decide)) ?_
        refine own_iconst X112 hx (v := (1 : Int32)) (pc' := 283) rfl (hb hby at_282) rfl ?_
        refine own_goto X112 hx (pc' := 287) (hb hby at_283) (by decide) (by decide) ?_
        refine own_istore X112 hx (Ls' := #[.val (.int p1), .val (.int p2), .val (.int p3), .val (.int p4), .val (.int p5), .val (.int p6), .val (.int nn), .val (.int s1), .val (.int kv), .val (.int s2), .val (.int cv1), .val (.int s3), .val (.int cv2), .val (.ref o7), .val (.ref o21), .val (.int (1 : Int32)), .val (.long mu1), .second, .val (.long (mu1 + (0 : Int64))), .second]) (pc' := 289) rfl (hb hby at_287) rfl ?_
        refine own_iload X112 hx (pc' := 291) rfl (hb hby at_289) rfl ?_
        refine own_zret X112 hx hlk hret (by simp) (hb hby at_291) (by decide) (by decide) ?_
        rw [e112]
        exact ⟨rfl, M112⟩
      · refine own_ifF X110 hx (pc' := 235) rfl (hb hby at_232) (XT.i0_eq_f c232_111) ?_
        refine own_iloadN X110 hx (pc' := 236) rfl (hb hby at_235) rfl ?_
        refine own_iloadN X110 hx (pc' := 237) rfl (hb hby at_236) rfl ?_
        refine own_iloadN X110 hx (pc' := 238) rfl (hb hby at_237) rfl ?_
        refine own_iloadN X110 hx (pc' := 239) rfl (hb hby at_238) rfl ?_
        refine own_iload X110 hx (pc' := 241) rfl (hb hby at_239) rfl ?_
        refine own_callS X110 hx hZ (y := (⟨"com/example/ferrule/ferrule/matrix/CompensatedSumsMagnitudePinLaw", "upTo", "(IIIII)J"⟩ : MethodName)) hown (hw _ (List.mem_of_getElem? (i := 34) rfl)) (hw _ (List.mem_of_getElem? (i := 35) rfl)) (hw _ (List.mem_of_getElem? (i := 36) rfl)) (hw _ (List.mem_of_getElem? (i := 37) rfl))  (by decide) (rm_upTo l Z a0 hw [] p1 p2 p3 p4 cv2 h101 n0 Siz_102) (by decide) (W := 2) (by decide) (by decide) (by decide) e110 (by rw [hml]; rfl) (argsL := [(.int p1), (.int p2), (.int p3), (.int p4), (.int cv2)]) (rest := [(.long mu1)]) rfl (lenOf pd__IIIII_J rfl) rfl (Nat.le_of_eq rfl) (pc' := 244) rfl (hb hby at_241) ?_
        rintro _ T113 L113 X113 ⟨rfl, N113, e113⟩
        have M113 := Fr.app M110 N113
        show own_Goes p e below T113 (mkF m 244 #[.val (.int p1), .val (.int p2), .val (.int p3), .val (.int p4), .val (.int p5), .val (.int p6), .val (.int nn), .val (.int s1), .val (.int kv), .val (.int s2), .val (.int cv1), .val (.int s3), .val (.int cv2), .val (.ref o7), .val (.ref o21), .val (.int (1 : Int32)), .val (.long mu1), .second, .unset, .unset] [(.long (own_upTo p1 p2 p3 p4 cv2)), (.long mu1)]) _
        refine own_goto X113 hx (pc' := 248) (hb hby at_244) (by decide) (by decide) ?_
        have hu2 := own_up p1 p2 p3 p4 hm2 hm2n hz4
        generalize (own_upTo p1 p2 p3 p4 cv2) = mu2 at hu2 ⊢
        refine own_ladd X113 hx (v := (mu1 + mu2)) (pc' := 249) rfl (hb hby at_248) rfl ?_
        refine own_lstore X113 hx (Ls' := #[.val (.int p1), .val (.int p2), .val (.int p3), .val (.int p4), .val (.int p5), .val (.int p6), .val (.int nn), .val (.int s1), .val (.int kv), .val (.int s2), .val (.int cv1), .val (.int s3), .val (.int cv2), .val (.ref o7), .val (.ref o21), .val (.int (1 : Int32)), .val (.long mu1), .second, .val (.long (mu1 + mu2)), .second]) (pc' := 251) rfl (hb hby at_249) rfl ?_
        refine own_iload X113 hx (pc' := 253) rfl (hb hby at_251) rfl ?_
        refine own_ifF X113 hx (pc' := 256) rfl (hb hby at_253) (XT.i0_eq_f c232_111) ?_
        refine own_aload X113 hx (pc' := 258) rfl (hb hby at_256) rfl rfl ?_
        refine own_aload X113 hx (pc' := 260) rfl (hb hby at_258) rfl rfl ?_
        refine own_iload X113 hx (pc' := 262) rfl (hb hby at_260) rfl ?_
        refine own_callV X113 hx hZ (y := (⟨"com/example/ferrule/ferrule/matrix/CompensatedSums", "add", "([DI)V"⟩ : MethodName)) hown (hw _ (List.mem_of_getElem? (i := 44) rfl)) (hw _ (List.mem_of_getElem? (i := 45) rfl)) (hw _ (List.mem_of_getElem? (i := 47) rfl)) (hw _ (List.mem_of_getElem? (i := 46) rfl)) (hw _ (List.mem_of_getElem? (i := 3) rfl)) (hw _ (List.mem_of_getElem? (i := 48) rfl)) Exa_104  (by decide) (rm_addM l Z a0 hw [] aS aC aM101 n fs101 fc101 fm101 _ (own_upd (own_upd (own_upd (own_upd (fun _ => (.double (0 : UInt64))) 0 (.double (FP.l2d p1.toInt64))) 1 (.double (FP.l2d p2.toInt64))) 2 (.double (FP.l2d p3.toInt64))) 3 (.double (FP.l2d p4.toInt64))) _ _ _ o21 o7 cv2 h101 n0 Siz_102 Exa_104 FS101 FC101 FM101 AS101 AC101 AM101 Arr_103 (Nat.le_trans Siz_22 gS) (Nat.le_trans Siz_22 gC) (Nat.le_trans Siz_77 gM101) ne_o21_aS ne_o21_aC ne_o21_aM101 (Ne.symm ne21_o7) nSC ne_aS_aM101 ne_aC_aM101 ne_o7_aS ne_o7_aC ne_o7_aM101 DS101 DC101 hV (by decide) hm2 hm2n DM101 (own_gB.mono (own_addGB own_gB0 (own_w4B p1 p2 p3 p4) (Nat.le_trans hm1n hz4)) (by decide))) (by decide) (W := 0) (by decide) (by decide) (by decide) e113 (by rw [hml]; rfl) (argsL := [(.ref o7), (.int cv2)]) (rest := []) rfl (lenOf pd___DI_V rfl) rfl (Nat.le_of_eq rfl) (pc' := 265) rfl (hb hby at_262) ?_
        rintro _ T114 L114 X114 ⟨rfl, N114, K114, B114⟩
        have M114 := Fr.app M113 N114
        obtain ⟨h114, e114⟩ : ∃ z, T114.heap = z := ⟨_, rfl⟩
        rw [e114] at K114 B114
        have Siz_115 := Nat.le_trans Siz_102 K114.1
        have Arr_116 := own_Arr.keep K114 Arr_103 (ninS ne_o7_aS (ninS ne_o7_aC (ninS ne_o7_aM101 nin0)))
        have Exa_117 := Exa_104.keep K114
        have Fld_118 := FS101.keep K114 (ninS ne_o21_aS (ninS ne_o21_aC (ninS ne_o21_aM101 nin0)))
        have Fld_119 := FC101.keep K114 (ninS ne_o21_aS (ninS ne_o21_aC (ninS ne_o21_aM101 nin0)))
        have Fld_120 := FM101.keep K114 (ninS ne_o21_aS (ninS ne_o21_aC (ninS ne_o21_aM101 nin0)))
        show own_Goes p e below T114 (mkF m 265 #[.val (.int p1), .val (.int p2), .val (.int p3), .val (.int p4), .val (.int p5), .val (.int p6), .val (.int nn), .val (.int s1), .val (.int kv), .val (.int s2), .val (.int cv1), .val (.int s3), .val (.int cv2), .val (.ref o7), .val (.ref o21), .val (.int (1 : Int32)), .val (.long mu1), .second, .val (.long (mu1 + mu2)), .second] []) _
        obtain ⟨fs114, fc114, fm114, AS114, DS114, AC114, DC114, AM114, DM114⟩ := B114
        refine own_iload X114 hx (pc' := 267) rfl (hb hby at_265) rfl ?_
        refine own_ifF X114 hx (pc' := 270) rfl (hb hby at_267) (XT.i0_eq_f (by decide)) ?_
        refine own_aload X114 hx (pc' := 272) rfl (hb hby at_270) rfl rfl ?_
        refine own_callV X114 hx hZ (y := (⟨"com/example/ferrule/ferrule/matrix/CompensatedSums", "magnitude", "()D"⟩ : MethodName)) hown (hw _ (List.mem_of_getElem? (i := 14) rfl)) (hw _ (List.mem_of_getElem? (i := 15) rfl)) (hw _ (List.mem_of_getElem? (i := 17) rfl)) (hw _ (List.mem_of_getElem? (i := 16) rfl)) (hw _ (List.mem_of_getElem? (i := 3) rfl)) (hw _ (List.mem_of_getElem? (i := 18) rfl)) Exa_117  (by decide) (rm_mag l Z a0 hw [] aM101 n fm114 (own_addG (own_addG own_zf (own_w4 p1 p2 p3 p4) cn1) (own_w4 p1 p2 p3 p4) cn2) o21 h114 n0 Siz_115 Exa_117 Fld_120 AM114 DM114 (own_gB.mono (own_addGB (own_addGB own_gB0 (own_w4B p1 p2 p3 p4) (Nat.le_trans hm1n hz4)) (own_w4B p1 p2 p3 p4) (Nat.le_trans hm2n hz4)) (by decide)) hn) (by decide) (W := 0) (by decide) (by decide) (by decide) e114 (by rw [hml]; rfl) (argsL := []) (rest := []) rfl (lenOf pd___D rfl) rfl (Nat.le_of_eq rfl) (pc' := 275) rfl (hb hby at_272) ?_
        rintro _ T124 L124 X124 ⟨r124, rfl, hr124, N124, e124⟩
        have M124 := Fr.app M114 N124
        show own_Goes p e below T124 (mkF m 275 #[.val (.int p1), .val (.int p2), .val (.int p3), .val (.int p4), .val (.int p5), .val (.int p6), .val (.int nn), .val (.int s1), .val (.int kv), .val (.int s2), .val (.int cv1), .val (.int s3), .val (.int cv2), .val (.ref o7), .val (.ref o21), .val (.int (1 : Int32)), .val (.long mu1), .second, .val (.long (mu1 + mu2)), .second] [(.double r124)]) _
        refine own_lload X124 hx (pc' := 277) rfl (hb hby at_275) rfl ?_
        refine own_l2d X124 hx (v := (FP.l2d (mu1 + mu2))) (pc' := 278) rfl (hb hby at_277) rfl ?_
        refine own_dcmp X124 hx (v := (0 : Int32)) (pc' := 279) rfl (hb hby at_278) (own_eqv hr124 (by rw [own_m11 hu1.2.1 hu1.2.2 hu2.2.1 hu2.2.2, hu2.1, hu1.1, own_sum0]; omega) (own_sumN (own_gB.mono (own_addGB (own_addGB own_gB0 (own_w4B p1 p2 p3 p4) (Nat.le_trans hm1n hz4)) (own_w4B p1 p2 p3 p4) (Nat.le_trans hm2n hz4)) (by decide)) hz4) _) ?_
        refine own_ifF X124 hx (pc' := 282) rfl (hb hby at_279) (XT.i0_ne_f (by decide)) ?_
        refine own_iconst X124 hx (v := (1 : Int32)) (pc' := 283) rfl (hb hby at_282) rfl ?_
        refine own_goto X124 hx (pc' := 287) (hb hby at_283) (by decide) (by decide) ?_
        refine own_istore X124 hx (Ls' := #[.val (.int p1), .val (.int p2), .val (.int p3), .val (.int p4), .val (.int p5), .val (.int p6), .val (.int nn), .val (.int s1), .val (.int kv), .val (.int s2), .val (.int cv1), .val (.int s3), .val (.int cv2), .val (.ref o7), .val (.ref o21), .val (.int (1 : Int32)), .val (.long mu1), .second, .val (.long (mu1 + mu2)), .second]) (pc' := 289) rfl (hb hby at_287) rfl ?_
        refine own_iload X124 hx (pc' := 291) rfl (hb hby at_289) rfl ?_
        refine own_zret X124 hx hlk hret (by simp) (hb hby at_291) (by decide) (by decide) ?_
        rw [e124]
        exact ⟨rfl, M124⟩
set_option maxRecDepth 65536 in
set_option maxHeartbeats 40000000 in
theorem comes_1 {Post : Tables → Env → Array Value → State → Outcome → State → Prop} (hpost : ∀ tb e args s v u, (limb_1_1.after args s (.returned v) u = true ∧ limb_1_2.after args s (.returned v) u = true ∧ True) → FrameEnd s (.returned v) u (Jvm.fieldLocs frame_1_writes args s ++ Jvm.arrayLocs frame_1_arrays args s ++ Jvm.staticLocs frame_1_statics s) 24 128 → Post tb e args s (.returned v) u) :
    ArmFor flags0 classFile x code maxLocals ret World_1 tables_1 room_1 Calls_1 rest_1 Pre_1 Post := by
  intro l hfl _ _ p e ha hc hk s m args below hf hA hF happ hP
  obtain ⟨hcalls, hrest, hpre⟩ := hP
  obtain ⟨-, -, -, hnamed, -, -, -, hat⟩ := (Spec.applies_iff hf).mp happ
  obtain ⟨hg, hn⟩ := and_e (Cond.before_iff.mp (show (Jvm.Cond.and given_1 narrow_1).before args s = true from hpre))
  obtain ⟨h1, hg1⟩ := and_e hg
  obtain ⟨w0, w1, w2, w3, w4, w5, rfl⟩ : ∃ w0 w1 w2 w3 w4 w5 : Value, args = #[w0, w1, w2, w3, w4, w5] := by
    have hs : args.size = 6 := by simpa [Cond.value, given_1] using h1
    obtain ⟨L⟩ := args
    match L, hs with
    | [w0, w1, w2, w3, w4, w5], _ => exact ⟨w0, w1, w2, w3, w4, w5, rfl⟩
  have hw := fun d (hd : d ∈ tables_1) => atoms_spec (ws := Jvm.Cond.code x code maxLocals ret :: tables_1) hat d (List.mem_cons_of_mem _ hd)
  have hfit : Fit s := fun {y c} hc i hi => by
    obtain ⟨ha, rfl⟩ := Array.getElem?_eq_some_iff.mp hc
    have q := List.all_eq_true.mp ((Array.all_eq_true_iff_forall_mem.mp hF) _ (Array.getElem_mem ha)) i (List.mem_range.mpr hi)
    simpa [Array.getElem?_eq_getElem hi] using q
  obtain ⟨q0, hg2⟩ := and_e hg1
  obtain ⟨i0, ee0⟩ := is_v q0
  obtain rfl : w0 = (.int i0) := Option.some.inj ee0
  obtain ⟨q1, hg3⟩ := and_e hg2
  obtain ⟨i1, ee1⟩ := is_v q1
  obtain rfl : w1 = (.int i1) := Option.some.inj ee1
  obtain ⟨q2, hg4⟩ := and_e hg3
  obtain ⟨i2, ee2⟩ := is_v q2
  obtain rfl : w2 = (.int i2) := Option.some.inj ee2
  obtain ⟨q3, hg5⟩ := and_e hg4
  obtain ⟨i3, ee3⟩ := is_v q3
  obtain rfl : w3 = (.int i3) := Option.some.inj ee3
  obtain ⟨q4, hg6⟩ := and_e hg5
  obtain ⟨i4, ee4⟩ := is_v q4
  obtain rfl : w4 = (.int i4) := Option.some.inj ee4
  obtain ⟨i5, ee5⟩ := is_v hg6
  obtain rfl : w5 = (.int i5) := Option.some.inj ee5
  obtain ⟨n, o, h1, h2, h3, _, L, rfl, ⟨rfl, N⟩, hq⟩ := rm_law l s _ hw tables_1  i0 i1 i2 i3 i4 i5 s.heap s.heap.size (Nat.le_refl _) p e ha hc hk s m _ below hf ((Spec.applies_iff_loose hf).mp happ).1 ⟨rfl, State.Warmed39.refl s, rfl⟩ trivial
  refine ⟨n, _, h1, h2, h3, hpost _ _ _ _ _ _ ⟨Cond.after_iff.mpr rfl, Cond.after_iff.mpr (eq_i res_at (Term.int_eval (1)) rfl), trivial⟩ ⟨hq.1, hq.2.1, (hq.2.2.sift fun y hy => Or.inr (N y hy)).mono (by decide) (by decide)⟩⟩
theorem main_1_1 : Claimed_1_1 := comes_1 fun _ _ _ _ _ _ h hF => ⟨h.1, hF⟩
theorem main_1_2 : Claimed_1_2 := comes_1 fun _ _ _ _ _ _ h hF => ⟨h.2.1, hF⟩
end Jvm.Pilot.@@N@@
namespace Jvm.Pilot.@@N@@
open Jvm Jvm.ClassFile Sem Op Lib Jvm.Free Jvm.Stand Jvm.Pilot.@@N@@.Jvm.D
/-! MADE BY PROGRAM (witnessworld.py) out of the Statement's table words and the real class files: 13 classes; the members and pool entries that the words name. The judged class is class 1, her method 1. -/
namespace start1
open Jvm.ClassFile
def u (s : String) : CpInfo := .utf8 (stringToUtf16 s)
/-- a pool by its gaps: so many unusable entries, then the entry; so many at the end -/
def gap : Nat → List CpInfo → List CpInfo
  | 0, r => r
  | n + 1, r => .unusable :: gap n r
def poolList (es : List (Nat × CpInfo)) (last : Nat) : List CpInfo := es.foldr (fun e r => gap e.1 (e.2 :: r)) (gap last [])
def pool (es : List (Nat × CpInfo)) (last : Nat) : Array CpInfo := ⟨poolList es last⟩
def fileOf (pool : Array CpInfo) (this : Nat) (attrs : Array Attribute := #[]) (ms : Array MethodInfo := #[]) (fl : Nat := 33) (sup : Nat := 0) (ifs : Array Nat := #[]) (fds : Array FieldInfo := #[]) : ClassFile where
  minorVersion := 0
  majorVersion := 65
  constantPool := pool
  accessFlags := fl
  thisClass := this
  superClass := sup
  interfaces := ifs
  fields := fds
  methods := ms
  attributes := attrs
def plain (name : String) (sup : Option ClassId) : Class where
  name := name
  kind := .ordinary
  loader := none
  accessFlags := 33
  super := sup
  interfaces := #[]
  cf := none
  fields := #[]
  methods := #[]
  instanceTypes := #[]
  staticTypes := #[]
  resolved := #[]
  callSites := []
  init := .initialized
  statics := none
  mirror := none

def pool0 : Array CpInfo := pool [(5, u "<init>"), (0, u "()V"), (1, .class_ 10), (1, u "java/lang/Object")] 113

def k0c0 : Code := { maxStack := 0, maxLocals := 1, code := object_method_1_code, exceptionTable := #[], attributes := #[] }
def k0m0 : Method := { name := "<init>", desc := "()V", sig := { parameters := [], returnType := none }, accessFlags := 1, code := some k0c0 }
/-- java/lang/Object -/
def k0 : Class := { plain "java/lang/Object" none with
  accessFlags := 33
  interfaces := #[]
  cf := some (fileOf pool0 8 #[] #[{ accessFlags := 1, nameIndex := 5, descriptorIndex := 6, attributes := #[] }] 33 0 #[] #[])
  fields := #[]
  methods := #[k0m0]
  instanceTypes := #[]
  staticTypes := #[]
  resolved := Array.replicate 124 none
  statics := none }

def pool1 : Array CpInfo := pool [(2, .class_ 4), (1, u "java/lang/Object"), (0, u "<init>"), (0, u "()V"), (0, .class_ 8), (0, u "com/example/ferrule/ferrule/matrix/CompensatedSums"), (0, .methodref 7 10), (0, .nameAndType 5 11), (0, u "(I)V"), (0, .methodref 7 13), (0, .nameAndType 14 15), (0, u "magnitude"), (0, u "()D"), (0, .methodref 7 17), (0, .nameAndType 18 19), (0, u "add"), (0, u "(ID)V"), (0, .methodref 21 22), (0, .class_ 23), (0, .nameAndType 24 25), (0, u "com/example/ferrule/ferrule/matrix/CompensatedSumsMagnitudePinLaw"), (0, u "upTo"), (0, u "(IIIII)J"), (0, .methodref 7 27), (0, .nameAndType 18 28), (0, u "([DI)V"), (0, .methodref 30 31), (0, .class_ 32), (0, .nameAndType 33 34), (0, u "java/lang/Math"), (0, u "abs"), (0, u "(J)J"), (0, .methodref 21 36), (0, .nameAndType 37 38), (0, u "part"), (0, u "(III)J"), (2, u "law"), (0, u "(IIIIII)Z")] 5

def k1m0 : Method := { name := "<init>", desc := "()V", sig := { parameters := [], returnType := none }, accessFlags := 1, code := none }
def k1c1 : Code := { maxStack := 7, maxLocals := 20, code := code, exceptionTable := #[], attributes := #[] }
def k1m1 : Method := { name := "law", desc := "(IIIIII)Z", sig := { parameters := [.int, .int, .int, .int, .int, .int], returnType := some .boolean }, accessFlags := 9, code := some k1c1 }
def k1c2 : Code := { maxStack := 2, maxLocals := 3, code := method_3_code, exceptionTable := #[], attributes := #[] }
def k1m2 : Method := { name := "part", desc := "(III)J", sig := { parameters := [.int, .int, .int], returnType := some .long }, accessFlags := 10, code := some k1c2 }
def k1c3 : Code := { maxStack := 5, maxLocals := 5, code := method_4_code, exceptionTable := #[], attributes := #[] }
def k1m3 : Method := { name := "upTo", desc := "(IIIII)J", sig := { parameters := [.int, .int, .int, .int, .int], returnType := some .long }, accessFlags := 10, code := some k1c3 }
/-- com/example/ferrule/ferrule/matrix/CompensatedSumsMagnitudePinLaw -/
def k1 : Class := { plain "com/example/ferrule/ferrule/matrix/CompensatedSumsMagnitudePinLaw" (some 0) with
  accessFlags := 49
  interfaces := #[]
  cf := some (fileOf pool1 21 #[] #[{ accessFlags := 1, nameIndex := 5, descriptorIndex := 6, attributes := #[] }, { accessFlags := 9, nameIndex := 41, descriptorIndex := 42, attributes := #[] }, { accessFlags := 10, nameIndex := 37, descriptorIndex := 38, attributes := #[] }, { accessFlags := 10, nameIndex := 24, descriptorIndex := 25, attributes := #[] }] 49 2 #[] #[])
  fields := #[]
  methods := #[k1m0, k1m1, k1m2, k1m3]
  instanceTypes := #[]
  staticTypes := #[]
  resolved := Array.replicate 48 none
  statics := none }

def pool2 : Array CpInfo := pool [(1, .methodref 2 3), (0, .class_ 4), (0, .nameAndType 5 6), (0, u "java/lang/Object"), (0, u "<init>"), (0, u "()V"), (0, .fieldref 8 9), (0, .class_ 10), (0, .nameAndType 11 12), (0, u "com/example/ferrule/ferrule/matrix/CompensatedSums"), (0, u "sums"), (0, u "[D"), (0, .fieldref 8 14), (0, .nameAndType 15 12), (0, u "compensations"), (0, .methodref 17 18), (0, .class_ 19), (0, .nameAndType 20 21), (0, u "com/example/ferrule/ferrule/matrix/CompensatedSum"), (0, u "error"), (0, u "(DDD)D"), (0, .fieldref 8 23), (0, .nameAndType 24 12), (0, u "magnitudes"), (0, .methodref 17 26), (0, .nameAndType 27 21), (0, u "errorWithoutBranch"), (0, .methodref 29 30), (0, .class_ 31), (0, .nameAndType 32 33), (0, u "java/lang/Math"), (0, u "abs"), (0, u "(D)D"), (6, u "add"), (1, u "(I)V"), (4, u "(ID)V"), (0, u "([DI)V"), (2, u "magnitude"), (0, u "()D")] 5

def k2c0 : Code := { maxStack := 2, maxLocals := 2, code := prog_64_method_1_code, exceptionTable := #[], attributes := #[] }
def k2m0 : Method := { name := "<init>", desc := "(I)V", sig := { parameters := [.int], returnType := none }, accessFlags := 1, code := some k2c0 }
def k2c1 : Code := { maxStack := 10, maxLocals := 8, code := prog_64_method_3_code, exceptionTable := #[], attributes := #[] }
def k2m1 : Method := { name := "add", desc := "(ID)V", sig := { parameters := [.int, .double], returnType := none }, accessFlags := 1, code := some k2c1 }
def k2c2 : Code := { maxStack := 10, maxLocals := 13, code := prog_64_method_4_code, exceptionTable := #[], attributes := #[] }
def k2m2 : Method := { name := "add", desc := "([DI)V", sig := { parameters := [(.array .double), .int], returnType := none }, accessFlags := 1, code := some k2c2 }
def k2c3 : Code := { maxStack := 4, maxLocals := 8, code := prog_64_method_5_code, exceptionTable := #[], attributes := #[] }
def k2m3 : Method := { name := "magnitude", desc := "()D", sig := { parameters := [], returnType := some .double }, accessFlags := 1, code := some k2c3 }
/-- com/example/ferrule/ferrule/matrix/CompensatedSums -/
def k2 : Class := { plain "com/example/ferrule/ferrule/matrix/CompensatedSums" (some 0) with
  accessFlags := 49
  interfaces := #[]
  cf := some (fileOf pool2 8 #[] #[{ accessFlags := 1, nameIndex := 5, descriptorIndex := 42, attributes := #[] }, { accessFlags := 1, nameIndex := 40, descriptorIndex := 47, attributes := #[] }, { accessFlags := 1, nameIndex := 40, descriptorIndex := 48, attributes := #[] }, { accessFlags := 1, nameIndex := 51, descriptorIndex := 52, attributes := #[] }] 49 2 #[] #[{ accessFlags := 18, nameIndex := 11, descriptorIndex := 12, attributes := #[] }, { accessFlags := 18, nameIndex := 15, descriptorIndex := 12, attributes := #[] }, { accessFlags := 2, nameIndex := 24, descriptorIndex := 12, attributes := #[] }])
  fields := #[{ name := "sums", type := (.array .double), accessFlags := 18, slot := 0, constantValue := 0 }, { name := "compensations", type := (.array .double), accessFlags := 18, slot := 1, constantValue := 0 }, { name := "magnitudes", type := (.array .double), accessFlags := 2, slot := 2, constantValue := 0 }]
  methods := #[k2m0, k2m1, k2m2, k2m3]
  instanceTypes := #[(.array .double), (.array .double), (.array .double)]
  staticTypes := #[]
  resolved := Array.replicate 58 none
  statics := none }

def pool3 : Array CpInfo := pool [(2, .class_ 4), (1, u "java/lang/Object"), (0, u "<init>"), (0, u "()V"), (1, .class_ 10), (1, u "com/example/ferrule/ferrule/matrix/CompensatedSum"), (0, u "sum"), (0, u "D"), (2, u "compensation"), (2, u "error"), (0, u "(DDD)D"), (0, .methodref 21 22), (0, .class_ 23), (0, .nameAndType 24 25), (0, u "java/lang/Math"), (0, u "abs"), (0, u "(D)D"), (2, u "errorWithoutBranch")] 36

def k3m0 : Method := { name := "<init>", desc := "()V", sig := { parameters := [], returnType := none }, accessFlags := 1, code := none }
def k3c1 : Code := { maxStack := 4, maxLocals := 6, code := prog_63_method_9_code, exceptionTable := #[], attributes := #[] }
def k3m1 : Method := { name := "error", desc := "(DDD)D", sig := { parameters := [.double, .double, .double], returnType := some .double }, accessFlags := 8, code := some k3c1 }
def k3c2 : Code := { maxStack := 6, maxLocals := 8, code := prog_63_method_10_code, exceptionTable := #[], attributes := #[] }
def k3m2 : Method := { name := "errorWithoutBranch", desc := "(DDD)D", sig := { parameters := [.double, .double, .double], returnType := some .double }, accessFlags := 8, code := some k3c2 }
/-- com/example/ferrule/ferrule/matrix/CompensatedSum -/
def k3 : Class := { plain "com/example/ferrule/ferrule/matrix/CompensatedSum" (some 0) with
  accessFlags := 49
  interfaces := #[]
  cf := some (fileOf pool3 8 #[] #[{ accessFlags := 1, nameIndex := 5, descriptorIndex := 6, attributes := #[] }, { accessFlags := 8, nameIndex := 18, descriptorIndex := 19, attributes := #[] }, { accessFlags := 8, nameIndex := 28, descriptorIndex := 19, attributes := #[] }] 49 2 #[] #[{ accessFlags := 2, nameIndex := 11, descriptorIndex := 12, attributes := #[] }, { accessFlags := 2, nameIndex := 15, descriptorIndex := 12, attributes := #[] }])
  fields := #[{ name := "sum", type := .double, accessFlags := 2, slot := 0, constantValue := 0 }, { name := "compensation", type := .double, accessFlags := 2, slot := 1, constantValue := 0 }]
  methods := #[k3m0, k3m1, k3m2]
  instanceTypes := #[.double, .double]
  staticTypes := #[]
  resolved := Array.replicate 65 none
  statics := none }

def pool4 : Array CpInfo := pool [(1, .class_ 2), (0, u "java/lang/Math"), (1, .class_ 6), (1, u "java/lang/Object"), (0, u "<init>"), (0, u "()V"), (5, u "(D)D"), (83, .class_ 100), (1, u "java/lang/Math$RandomNumberGeneratorHolder"), (23, u "abs"), (0, u "(J)J"), (46, u "negativeZeroFloatBits"), (0, u "J"), (2, u "negativeZeroDoubleBits"), (68, u "$assertionsDisabled"), (0, u "Z"), (91, u "twoToTheDoubleScaleDown"), (0, u "D"), (4, u "twoToTheDoubleScaleUp"), (9, u "E"), (3, u "PI"), (2, u "TAU"), (2, u "DEGREES_TO_RADIANS"), (0, u "RADIANS_TO_DEGREES")] 94

def k4m0 : Method := { name := "<init>", desc := "()V", sig := { parameters := [], returnType := none }, accessFlags := 2, code := none }
def k4c1 : Code := { maxStack := 4, maxLocals := 2, code := jdk_29_method_61_code, exceptionTable := #[], attributes := #[] }
def k4m1 : Method := { name := "abs", desc := "(J)J", sig := { parameters := [.long], returnType := some .long }, accessFlags := 9, code := some k4c1 }
def k4c2 : Code := { maxStack := 4, maxLocals := 2, code := jdk_29_method_64_code, exceptionTable := #[], attributes := #[] }
def k4m2 : Method := { name := "abs", desc := "(D)D", sig := { parameters := [.double], returnType := some .double }, accessFlags := 9, code := some k4c2 }
/-- java/lang/Math -/
def k4 : Class := { plain "java/lang/Math" (some 0) with
  accessFlags := 49
  interfaces := #[]
  cf := some (fileOf pool4 1 #[.nestMembers #[98]] #[{ accessFlags := 2, nameIndex := 7, descriptorIndex := 8, attributes := #[] }, { accessFlags := 9, nameIndex := 124, descriptorIndex := 125, attributes := #[] }, { accessFlags := 9, nameIndex := 124, descriptorIndex := 14, attributes := #[] }] 49 4 #[] #[{ accessFlags := 25, nameIndex := 354, descriptorIndex := 339, attributes := #[] }, { accessFlags := 25, nameIndex := 358, descriptorIndex := 339, attributes := #[] }, { accessFlags := 25, nameIndex := 361, descriptorIndex := 339, attributes := #[] }, { accessFlags := 26, nameIndex := 364, descriptorIndex := 339, attributes := #[] }, { accessFlags := 26, nameIndex := 365, descriptorIndex := 339, attributes := #[] }, { accessFlags := 26, nameIndex := 172, descriptorIndex := 173, attributes := #[] }, { accessFlags := 26, nameIndex := 176, descriptorIndex := 173, attributes := #[] }, { accessFlags := 8, nameIndex := 344, descriptorIndex := 339, attributes := #[] }, { accessFlags := 8, nameIndex := 338, descriptorIndex := 339, attributes := #[] }, { accessFlags := 4120, nameIndex := 245, descriptorIndex := 246, attributes := #[] }])
  fields := #[{ name := "E", type := .double, accessFlags := 25, slot := 0, constantValue := 0 }, { name := "PI", type := .double, accessFlags := 25, slot := 1, constantValue := 0 }, { name := "TAU", type := .double, accessFlags := 25, slot := 2, constantValue := 0 }, { name := "DEGREES_TO_RADIANS", type := .double, accessFlags := 26, slot := 3, constantValue := 0 }, { name := "RADIANS_TO_DEGREES", type := .double, accessFlags := 26, slot := 4, constantValue := 0 }, { name := "negativeZeroFloatBits", type := .long, accessFlags := 26, slot := 5, constantValue := 0 }, { name := "negativeZeroDoubleBits", type := .long, accessFlags := 26, slot := 6, constantValue := 0 }, { name := "twoToTheDoubleScaleUp", type := .double, accessFlags := 8, slot := 7, constantValue := 0 }, { name := "twoToTheDoubleScaleDown", type := .double, accessFlags := 8, slot := 8, constantValue := 0 }, { name := "$assertionsDisabled", type := .boolean, accessFlags := 4120, slot := 9, constantValue := 0 }]
  methods := #[k4m0, k4m1, k4m2]
  instanceTypes := #[]
  staticTypes := #[.double, .double, .double, .double, .double, .long, .long, .double, .double, .boolean]
  resolved := Array.replicate 460 none
  statics := none }

def pool5 : Array CpInfo := pool [(1, u "java/lang/Cloneable"), (0, .class_ 1), (0, u "java/lang/Object"), (0, .class_ 3)] 3

/-- java/lang/Cloneable -/
def k5 : Class := { plain "java/lang/Cloneable" (some 0) with
  accessFlags := 1537
  interfaces := #[]
  cf := some (fileOf pool5 2 #[] #[] 1537 4 #[] #[])
  fields := #[]
  methods := #[]
  instanceTypes := #[]
  staticTypes := #[]
  resolved := Array.replicate 8 none
  statics := none }

def pool6 : Array CpInfo := pool [(1, u "java/io/Serializable"), (0, .class_ 1), (0, u "java/lang/Object"), (0, .class_ 3)] 3

/-- java/io/Serializable -/
def k6 : Class := { plain "java/io/Serializable" (some 0) with
  accessFlags := 1537
  interfaces := #[]
  cf := some (fileOf pool6 2 #[] #[] 1537 4 #[] #[])
  fields := #[]
  methods := #[]
  instanceTypes := #[]
  staticTypes := #[]
  resolved := Array.replicate 8 none
  statics := none }

/-- the primitive byte -/
def k7 : Class := { plain "byte" none with kind := .primitive 'B', accessFlags := 0x411 }
/-- [B -/
def k8 : Class := { plain "[B" (some 0) with kind := .array 7 .byte, interfaces := #[5, 6], accessFlags := 1041 }

/-- the primitive double -/
def k9 : Class := { plain "double" none with kind := .primitive 'D', accessFlags := 0x411 }
/-- [D -/
def k10 : Class := { plain "[D" (some 0) with kind := .array 9 .double, interfaces := #[5, 6], accessFlags := 1041 }

/-- the primitive int -/
def k11 : Class := { plain "int" none with kind := .primitive 'I', accessFlags := 0x411 }
/-- [I -/
def k12 : Class := { plain "[I" (some 0) with kind := .array 11 .int, interfaces := #[5, 6], accessFlags := 1041 }

def heap : Heap := #[]
def classes : Array Class := #[k0, k1, k2, k3, k4, k5, k6, k7, k8, k9, k10, k11, k12]
def interned : List (Array UInt16 × Addr) := []
def slotsUsed : Nat := 0
def theMethod : MethodId := ⟨1, 1⟩
def args0 : Array Value := #[.int 5, .int 7, .int 9, .int 11, .int 3, .int 2]
def aboutOver (below : List Frame) : State where
  vm := { classes := classes, interned := interned.toArray }
  heap := heap
  slotsUsed := slotsUsed
  threads := #[{ frames := .invoking theMethod args0 :: below }]
def below0 : List Frame := [.native { method := ⟨0, 0⟩, args := #[] }]
def about1 : State := aboutOver below0
def p0 : Program := .bare "" "" ""
def e0 : Env := launch0.env 0 0 0
theorem w_frames : about1.frames = Frame.invoking theMethod args0 :: below0 := rfl
set_option maxRecDepth 65536 in
theorem w_args : argsFit about1.vm theMethod args0 = true := by decide +kernel
set_option maxRecDepth 65536 in
theorem w_heap : heapFits about1 = true := by decide +kernel
set_option maxRecDepth 65536 in
theorem w_runnable : about1.curStatus? = some .runnable := by decide +kernel
set_option maxRecDepth 65536 in
theorem w_alone : about1.alone = true := by decide +kernel
set_option maxRecDepth 65536 in
theorem w_named : about1.methodNamed? x = some theMethod := by decide +kernel
set_option maxRecDepth 65536 in
theorem w_hears : about1.hears theMethod below0 = true := by decide +kernel
set_option maxRecDepth 65536 in
theorem w_ripe : about1.ripe theMethod args0 below0 = true := by decide +kernel
theorem w_running : about1.status = .running := rfl
set_option maxRecDepth 65536 in
theorem w_room : about1.hasRoom e0.platform room_1 = true :=
  launch0.hasRoom_least _ room_1 (by decide +kernel) (by decide +kernel) (by decide +kernel) (by decide +kernel) (by decide +kernel) (by decide +kernel)
theorem allAtoms_all (ts : List Jvm.Cond) (a : Array Jvm.Value) (st : Jvm.State) : (allAtoms ts).before a st = ts.all (fun c => c.before a st) := by
  induction ts with
  | nil => rfl
  | cons c t ih =>
    show (Jvm.Cond.and c (allAtoms t)).before a st = _
    rw [Jvm.Cond.before_and, ih, List.all_cons]
def words1 : List Jvm.Cond := Jvm.Cond.code x code maxLocals ret :: tables_1
/-- a 'code' word, met by the world's own term for the bytes: nothing is compared byte by byte -/
theorem code_word {y : MethodName} {bytes : ByteArray} {mx : Nat} {rt : Option FieldType} {a : Array Value} {s : State} {m : MethodId} {meth : Method} {c : Code} (h1 : s.methodNamed? y = some m) (h2 : s.vm.method? m = some meth) (h3 : meth.code = some c) (h4 : c.code = bytes)
    (h5 : (c.maxLocals == mx && c.exceptionTable.isEmpty && decide (c.maxStack ≤ mostOperands) && decide (meth.sig.returnType = rt) && !meth.locks && decide (parseMethodDescriptor y.desc = some meth.sig)) = true) : (Jvm.Cond.code y bytes mx rt).before a s = true := by
  simp only [Bool.and_eq_true, beq_iff_eq, Bool.not_eq_true', decide_eq_true_eq] at h5
  obtain ⟨⟨⟨⟨⟨g1, g2⟩, g3⟩, g4⟩, g5⟩, g6⟩ := h5
  simp [Cond.before, Cond.holds, Cond.value, h1, h2, h3, h4, g1, g2, g3, g4, g5, g6]
def isCode : Jvm.Cond → Bool
  | .code _ _ _ _ => true
  | _ => false
theorem all_split {L : List Jvm.Cond} {P : Jvm.Cond → Bool} (h1 : L.all (fun c => isCode c || P c) = true) (h2 : ∀ c ∈ L.filter isCode, P c = true) : L.all P = true := by
  refine List.all_eq_true.mpr fun c hc => ?_
  have h := List.all_eq_true.mp h1 c hc
  rcases Bool.eq_false_or_eq_true (isCode c) with hi | hi
  · exact h2 c (List.mem_filter.mpr ⟨hc, hi⟩)
  · simpa [hi] using h
set_option maxRecDepth 65536 in
theorem w_c0 : (Jvm.Cond.code x code maxLocals ret).before args0 about1 = true := code_word (m := ⟨1, 1⟩) (meth := k1m1) (c := k1c1) (by decide +kernel) rfl rfl rfl (by decide +kernel)
set_option maxRecDepth 65536 in
theorem w_c1 : (Jvm.Cond.code ({ cls := "com/example/ferrule/ferrule/matrix/CompensatedSums", name := "<init>", desc := "(I)V" } : Jvm.MethodName) prog_64_method_1_code (2 : Nat) (Option.none : Option Jvm.ClassFile.FieldType)).before args0 about1 = true := code_word (m := ⟨2, 0⟩) (meth := k2m0) (c := k2c0) (by decide +kernel) rfl rfl rfl (by decide +kernel)
set_option maxRecDepth 65536 in
theorem w_c2 : (Jvm.Cond.code ({ cls := "java/lang/Object", name := "<init>", desc := "()V" } : Jvm.MethodName) object_method_1_code (1 : Nat) (Option.none : Option Jvm.ClassFile.FieldType)).before args0 about1 = true := code_word (m := ⟨0, 0⟩) (meth := k0m0) (c := k0c0) (by decide +kernel) rfl rfl rfl (by decide +kernel)
set_option maxRecDepth 65536 in
theorem w_c3 : (Jvm.Cond.code ({ cls := "com/example/ferrule/ferrule/matrix/CompensatedSums", name := "magnitude", desc := "()D" } : Jvm.MethodName) prog_64_method_5_code (8 : Nat) (Option.some Jvm.ClassFile.FieldType.double)).before args0 about1 = true := code_word (m := ⟨2, 3⟩) (meth := k2m3) (c := k2c3) (by decide +kernel) rfl rfl rfl (by decide +kernel)
set_option maxRecDepth 65536 in
theorem w_c4 : (Jvm.Cond.code ({ cls := "com/example/ferrule/ferrule/matrix/CompensatedSums", name := "add", desc := "(ID)V" } : Jvm.MethodName) prog_64_method_3_code (8 : Nat) (Option.none : Option Jvm.ClassFile.FieldType)).before args0 about1 = true := code_word (m := ⟨2, 1⟩) (meth := k2m1) (c := k2c1) (by decide +kernel) rfl rfl rfl (by decide +kernel)
set_option maxRecDepth 65536 in
theorem w_c5 : (Jvm.Cond.code ({ cls := "com/example/ferrule/ferrule/matrix/CompensatedSum", name := "error", desc := "(DDD)D" } : Jvm.MethodName) prog_63_method_9_code (6 : Nat) (Option.some Jvm.ClassFile.FieldType.double)).before args0 about1 = true := code_word (m := ⟨3, 1⟩) (meth := k3m1) (c := k3c1) (by decide +kernel) rfl rfl rfl (by decide +kernel)
set_option maxRecDepth 65536 in
theorem w_c6 : (Jvm.Cond.code ({ cls := "java/lang/Math", name := "abs", desc := "(D)D" } : Jvm.MethodName) jdk_29_method_64_code (2 : Nat) (Option.some Jvm.ClassFile.FieldType.double)).before args0 about1 = true := code_word (m := ⟨4, 2⟩) (meth := k4m2) (c := k4c2) (by decide +kernel) rfl rfl rfl (by decide +kernel)
set_option maxRecDepth 65536 in
theorem w_c7 : (Jvm.Cond.code ({ cls := "com/example/ferrule/ferrule/matrix/CompensatedSumsMagnitudePinLaw", name := "upTo", desc := "(IIIII)J" } : Jvm.MethodName) method_4_code (5 : Nat) (Option.some Jvm.ClassFile.FieldType.long)).before args0 about1 = true := code_word (m := ⟨1, 3⟩) (meth := k1m3) (c := k1c3) (by decide +kernel) rfl rfl rfl (by decide +kernel)
set_option maxRecDepth 65536 in
theorem w_c8 : (Jvm.Cond.code ({ cls := "com/example/ferrule/ferrule/matrix/CompensatedSumsMagnitudePinLaw", name := "part", desc := "(III)J" } : Jvm.MethodName) method_3_code (3 : Nat) (Option.some Jvm.ClassFile.FieldType.long)).before args0 about1 = true := code_word (m := ⟨1, 2⟩) (meth := k1m2) (c := k1c2) (by decide +kernel) rfl rfl rfl (by decide +kernel)
set_option maxRecDepth 65536 in
theorem w_c9 : (Jvm.Cond.code ({ cls := "java/lang/Math", name := "abs", desc := "(J)J" } : Jvm.MethodName) jdk_29_method_61_code (2 : Nat) (Option.some Jvm.ClassFile.FieldType.long)).before args0 about1 = true := code_word (m := ⟨4, 1⟩) (meth := k4m1) (c := k4c1) (by decide +kernel) rfl rfl rfl (by decide +kernel)
set_option maxRecDepth 65536 in
theorem w_c10 : (Jvm.Cond.code ({ cls := "com/example/ferrule/ferrule/matrix/CompensatedSums", name := "add", desc := "([DI)V" } : Jvm.MethodName) prog_64_method_4_code (13 : Nat) (Option.none : Option Jvm.ClassFile.FieldType)).before args0 about1 = true := code_word (m := ⟨2, 2⟩) (meth := k2m2) (c := k2c2) (by decide +kernel) rfl rfl rfl (by decide +kernel)
set_option maxRecDepth 65536 in
theorem w_c11 : (Jvm.Cond.code ({ cls := "com/example/ferrule/ferrule/matrix/CompensatedSum", name := "errorWithoutBranch", desc := "(DDD)D" } : Jvm.MethodName) prog_63_method_10_code (8 : Nat) (Option.some Jvm.ClassFile.FieldType.double)).before args0 about1 = true := code_word (m := ⟨3, 2⟩) (meth := k3m2) (c := k3c2) (by decide +kernel) rfl rfl rfl (by decide +kernel)
def codes1 : List Jvm.Cond := [Jvm.Cond.code x code maxLocals ret, Jvm.Cond.code ({ cls := "com/example/ferrule/ferrule/matrix/CompensatedSums", name := "<init>", desc := "(I)V" } : Jvm.MethodName) prog_64_method_1_code (2 : Nat) (Option.none : Option Jvm.ClassFile.FieldType), Jvm.Cond.code ({ cls := "java/lang/Object", name := "<init>", desc := "()V" } : Jvm.MethodName) object_method_1_code (1 : Nat) (Option.none : Option Jvm.ClassFile.FieldType), Jvm.Cond.code ({ cls := "com/example/ferrule/ferrule/matrix/CompensatedSums", name := "magnitude", desc := "()D" } : Jvm.MethodName) prog_64_method_5_code (8 : Nat) (Option.some Jvm.ClassFile.FieldType.double), Jvm.Cond.code ({ cls := "com/example/ferrule/ferrule/matrix/CompensatedSums", name := "add", desc := "(ID)V" } : Jvm.MethodName) prog_64_method_3_code (8 : Nat) (Option.none : Option Jvm.ClassFile.FieldType), Jvm.Cond.code ({ cls := "com/example/ferrule/ferrule/matrix/CompensatedSum", name := "error", desc := "(DDD)D" } : Jvm.MethodName) prog_63_method_9_code (6 : Nat) (Option.some Jvm.ClassFile.FieldType.double), Jvm.Cond.code ({ cls := "java/lang/Math", name := "abs", desc := "(D)D" } : Jvm.MethodName) jdk_29_method_64_code (2 : Nat) (Option.some Jvm.ClassFile.FieldType.double), Jvm.Cond.code ({ cls := "com/example/ferrule/ferrule/matrix/CompensatedSumsMagnitudePinLaw", name := "upTo", desc := "(IIIII)J" } : Jvm.MethodName) method_4_code (5 : Nat) (Option.some Jvm.ClassFile.FieldType.long), Jvm.Cond.code ({ cls := "com/example/ferrule/ferrule/matrix/CompensatedSumsMagnitudePinLaw", name := "part", desc := "(III)J" } : Jvm.MethodName) method_3_code (3 : Nat) (Option.some Jvm.ClassFile.FieldType.long), Jvm.Cond.code ({ cls := "java/lang/Math", name := "abs", desc := "(J)J" } : Jvm.MethodName) jdk_29_method_61_code (2 : Nat) (Option.some Jvm.ClassFile.FieldType.long), Jvm.Cond.code ({ cls := "com/example/ferrule/ferrule/matrix/CompensatedSums", name := "add", desc := "([DI)V" } : Jvm.MethodName) prog_64_method_4_code (13 : Nat) (Option.none : Option Jvm.ClassFile.FieldType), Jvm.Cond.code ({ cls := "com/example/ferrule/ferrule/matrix/CompensatedSum", name := "errorWithoutBranch", desc := "(DDD)D" } : Jvm.MethodName) prog_63_method_10_code (8 : Nat) (Option.some Jvm.ClassFile.FieldType.double)]
set_option maxRecDepth 65536 in
theorem codes_eq : words1.filter isCode = codes1 := rfl
theorem w_codes : ∀ c ∈ words1.filter isCode, c.before args0 about1 = true := by
  rw [codes_eq]
  intro c hc
  simp only [codes1, List.mem_cons, List.not_mem_nil, or_false] at hc
  rcases hc with rfl | rfl | rfl | rfl | rfl | rfl | rfl | rfl | rfl | rfl | rfl | rfl
  · exact w_c0
  · exact w_c1
  · exact w_c2
  · exact w_c3
  · exact w_c4
  · exact w_c5
  · exact w_c6
  · exact w_c7
  · exact w_c8
  · exact w_c9
  · exact w_c10
  · exact w_c11
set_option maxRecDepth 65536 in
theorem w_t1 : (words1.take 24).all (fun c => isCode c || c.before args0 about1) = true := by decide +kernel
set_option maxRecDepth 65536 in
theorem w_t2 : ((words1.drop 24).take 24).all (fun c => isCode c || c.before args0 about1) = true := by decide +kernel
set_option maxRecDepth 65536 in
theorem w_t3 : ((words1.drop 24).drop 24).all (fun c => isCode c || c.before args0 about1) = true := by decide +kernel
theorem w_tables : (allAtoms (Jvm.Cond.code x code maxLocals ret :: tables_1)).before args0 about1 = true := by
  rw [allAtoms_all]
  show words1.all (fun c => c.before args0 about1) = true
  refine all_split ?_ w_codes
  rw [← List.take_append_drop 24 words1, List.all_append, w_t1, ← List.take_append_drop 24 (words1.drop 24), List.all_append, w_t2, w_t3]
  rfl
set_option maxRecDepth 65536 in
theorem w_case : (Jvm.Cond.and given_1 narrow_1).before args0 about1 = true := by decide +kernel
theorem w_applies : (headSpec (Jvm.Cond.code x code maxLocals ret :: tables_1) room_1).applies x e0.platform about1 = true :=
  (Spec.applies_iff w_frames).mpr ⟨w_running, w_runnable, w_alone, w_named, w_hears, w_ripe, w_room, w_tables⟩
theorem atStart : AtStart classFile x code maxLocals ret World_1 tables_1 room_1 Calls_1 rest_1 Pre_1 launch0 p0 e0 about1 theMethod args0 below0 :=
  ⟨lists_1, trivial, launch0.admits_env _ _ _, launch0.least_env, fairChoices_fair.cas, fairChoices_fair.clock, w_frames, w_args, w_heap, w_applies, trivial, trivial, w_case⟩
end start1
theorem witness_1 : WitnessClaimed_1 := ⟨start1.p0, start1.e0, start1.about1, start1.theMethod, start1.args0, start1.below0, start1.atStart⟩
end Jvm.Pilot.@@N@@
