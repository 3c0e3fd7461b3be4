import JvmDerived
import JvmDerived.Pilot.@@N@@Statement
import JvmDerived.Pilot.@@N@@Code
set_option linter.unusedVariables false
set_option linter.unusedSimpArgs false
@@BLOCK:NumsL.lean.txt@@
namespace Jvm.Pilot.@@N@@
open Jvm Jvm.ClassFile Sem Op Lib Jvm.Free Jvm.Stand Jvm.LawKit Jvm.RoadKit Bundle Jvm.Pilot.@@N@@.Jvm.D
/-! 1. OWN: a walk in continuation style: 'own_Goes': from this frame the run comes back with an outcome of which Q holds -/
def own_Goes (p : Program) (e : Env) (below : List Frame) (T : State) (F : JFrame) (Q : Outcome → State → Prop) : Prop := ∃ s₂ o, Steps p.tables e below (T.setTop F) s₂ ∧ s₂.status = .running ∧ Ended s₂ below o ∧ Q o s₂
def own_Ret (s : State) (K : Option Value → Heap → List Loc → Prop) (rc rs : Nat) (o : Outcome) (U' : State) : Prop := ∃ v L, o = .returned v ∧ K v U'.heap L ∧ FrameEnd s o U' L rc rs
def own_upd (f : Nat → Value) (k : Nat) (v : Value) : Nat → Value := fun i => if i = k then v else f i
/-- an array of n places at a; place j holds f j -/
def own_Arr (Z : State) (h : Heap) (a : Addr) (ty : FieldType) (n : Nat) (f : Nat → Value) : Prop := ∃ c : Cell, Arr Z h a c ty ∧ c.slots.size = n ∧ n < 2 ^ 31 ∧ ∀ j, j < n → c.slots[j]? = some (f j)
section Own
variable {p : Program} {l : Launch} {e : Env} {R : Room} {s : State} {m : MethodId} {args : Array Value} {below : List Frame} {meth : Method} {c : Code} {T : State} {locs : List Loc} {cells slots : Nat} {Z : State} {a0 : Array Value} {h h' : Heap} {Q : Outcome → State → Prop} {Ls Ls' : Array Slot} {st : List Value} {pc pc' : Nat}
theorem own_step {T' : State} {F F' : JFrame} (k : ∀ t, Steps p.tables e below (T'.setTop F') t → Steps p.tables e below (T.setTop F) t) (q : own_Goes p e below T' F' Q) : own_Goes p e below T F Q := by
  obtain ⟨s2, o, h1, h2⟩ := q
  exact ⟨s2, o, k _ h1, h2⟩
theorem own_body {y : MethodName} {bytes : ByteArray} {maxL : Nat} {rt : Option FieldType} {ws : List Jvm.Cond} {rm : Room} {as : Array Value} {h0 : Heap} {K : Option Value → Heap → List Loc → Prop} (hpl : plainFor y = true)
    (body : ∀ (p : Program) (e : Env) (s : State) (m : MethodId) (below : List Frame) (meth : Method) (c : Code) (s₁ : State), p.tables.exec = Jvm.exec → c.code = bytes → c.maxLocals = maxL → s.vm.findClass y.cls = some m.cls → meth.name = y.name → meth.sig.returnType = rt → meth.locks = false → Z.Warmed39 s.vm →
      Stand p l e rm s m as below meth c s₁ [] 0 0 → s₁.heap = h0 → own_Goes p e below s₁ (entryFrame m as maxL) (own_Ret s K rm.cells rm.slots)) :
    MetFree l y (head1 (Jvm.Cond.code y bytes maxL rt :: ws) rm) (fun a U => a = as ∧ Z.Warmed39 U.vm ∧ U.heap = h0) (fun _ _ _ _ _ => True) (fun _ U o U' => ∃ v L, o = .returned v ∧ K v U'.heap L ∧ FrameEnd U o U' L rm.cells rm.slots) := by
  refine MetFree.of_bodySF hpl hisR ?_
  intro p e s m args below meth c s₁ Bd hml0 hP hK
  obtain ⟨rfl, hZ, hh⟩ := hP
  exact body p e s m below meth c s₁ Bd.exec Bd.bytes hml0 (findClass_of_methodNamed Bd.named) (name_of_methodNamed Bd.named Bd.method).1 Bd.returns Bd.notSynchronized hZ (Stand.of_body Bd) (by rw [← hh, Bd.state]; rfl)
theorem own_iload (X : Stand p l e R s m args below meth c T locs cells slots) (hx : p.tables.exec = Jvm.exec) {k : Nat} {v : Int32} (hp : pc + 2 = pc') (hd : decode c.code pc = .ok (.iload k, 2)) (hl : Ls[k]? = some (.val (.int v))) (k : own_Goes p e below T (mkF m pc' Ls (.int v :: st)) Q) : own_Goes p e below T (mkF m pc Ls st) Q := by
  subst hp; exact own_step (fun _ q => XS.iload X.here hx rfl hd hl q) k
theorem own_iloadN (X : Stand p l e R s m args below meth c T locs cells slots) (hx : p.tables.exec = Jvm.exec) {k : Fin 4} {v : Int32} (hp : pc + 1 = pc') (hd : decode c.code pc = .ok (.iload_n k, 1)) (hl : Ls[k.val]? = some (.val (.int v))) (k : own_Goes p e below T (mkF m pc' Ls (.int v :: st)) Q) : own_Goes p e below T (mkF m pc Ls st) Q := by
  subst hp; exact own_step (fun _ q => XS.iloadN X.here hx rfl hd hl q) k
theorem own_istore (X : Stand p l e R s m args below meth c T locs cells slots) (hx : p.tables.exec = Jvm.exec) {k : Nat} {v : Int32} (hp : pc + 2 = pc') (hd : decode c.code pc = .ok (.istore k, 2)) (hl : storeLocals Ls k (.int v) = some Ls') (k : own_Goes p e below T (mkF m pc' Ls' st) Q) : own_Goes p e below T (mkF m pc Ls (.int v :: st)) Q := by
  subst hp; exact own_step (fun _ q => XS.istore X.here hx rfl hd rfl hl q) k
theorem own_istoreN (X : Stand p l e R s m args below meth c T locs cells slots) (hx : p.tables.exec = Jvm.exec) {k : Fin 4} {v : Int32} (hp : pc + 1 = pc') (hd : decode c.code pc = .ok (.istore_n k, 1)) (hl : storeLocals Ls k.val (.int v) = some Ls') (k : own_Goes p e below T (mkF m pc' Ls' st) Q) : own_Goes p e below T (mkF m pc Ls (.int v :: st)) Q := by
  subst hp; exact own_step (fun _ q => XS.istoreN X.here hx rfl hd rfl hl q) k
theorem own_lload (X : Stand p l e R s m args below meth c T locs cells slots) (hx : p.tables.exec = Jvm.exec) {k : Nat} {v : Int64} (hp : pc + 2 = pc') (hd : decode c.code pc = .ok (.lload k, 2)) (hl : Ls[k]? = some (.val (.long v))) (k : own_Goes p e below T (mkF m pc' Ls (.long v :: st)) Q) : own_Goes p e below T (mkF m pc Ls st) Q := by
  subst hp; exact own_step (fun _ q => XT.lload X.here hx rfl hd hl q) k
theorem own_lloadN (X : Stand p l e R s m args below meth c T locs cells slots) (hx : p.tables.exec = Jvm.exec) {k : Fin 4} {v : Int64} (hp : pc + 1 = pc') (hd : decode c.code pc = .ok (.lload_n k, 1)) (hl : Ls[k.val]? = some (.val (.long v))) (k : own_Goes p e below T (mkF m pc' Ls (.long v :: st)) Q) : own_Goes p e below T (mkF m pc Ls st) Q := by
  subst hp; exact own_step (fun _ q => XT.lloadN X.here hx rfl hd hl q) k
theorem own_lstore (X : Stand p l e R s m args below meth c T locs cells slots) (hx : p.tables.exec = Jvm.exec) {k : Nat} {v : Int64} (hp : pc + 2 = pc') (hd : decode c.code pc = .ok (.lstore k, 2)) (hl : storeLocals Ls k (.long v) = some Ls') (k : own_Goes p e below T (mkF m pc' Ls' st) Q) : own_Goes p e below T (mkF m pc Ls (.long v :: st)) Q := by
  subst hp; exact own_step (fun _ q => XT.lstore X.here hx rfl hd rfl hl q) k
theorem own_lstoreN (X : Stand p l e R s m args below meth c T locs cells slots) (hx : p.tables.exec = Jvm.exec) {k : Fin 4} {v : Int64} (hp : pc + 1 = pc') (hd : decode c.code pc = .ok (.lstore_n k, 1)) (hl : storeLocals Ls k.val (.long v) = some Ls') (k : own_Goes p e below T (mkF m pc' Ls' st) Q) : own_Goes p e below T (mkF m pc Ls (.long v :: st)) Q := by
  subst hp; exact own_step (fun _ q => XT.lstoreN X.here hx rfl hd rfl hl q) k
theorem own_aload (X : Stand p l e R s m args below meth c T locs cells slots) (hx : p.tables.exec = Jvm.exec) {k : Nat} {v : Value} (hp : pc + 2 = pc') (hd : decode c.code pc = .ok (.aload k, 2)) (hl : Ls[k]? = some (.val v)) (hv : v.isRef = true) (k : own_Goes p e below T (mkF m pc' Ls (v :: st)) Q) : own_Goes p e below T (mkF m pc Ls st) Q := by
  subst hp; exact own_step (fun _ q => XS.aload X.here hx rfl hd hl hv q) k
theorem own_aloadN (X : Stand p l e R s m args below meth c T locs cells slots) (hx : p.tables.exec = Jvm.exec) {k : Fin 4} {v : Value} (hp : pc + 1 = pc') (hd : decode c.code pc = .ok (.aload_n k, 1)) (hl : Ls[k.val]? = some (.val v)) (hv : v.isRef = true) (k : own_Goes p e below T (mkF m pc' Ls (v :: st)) Q) : own_Goes p e below T (mkF m pc Ls st) Q := by
  subst hp; exact own_step (fun _ q => XS.aloadN X.here hx rfl hd hl hv q) k
theorem own_astore (X : Stand p l e R s m args below meth c T locs cells slots) (hx : p.tables.exec = Jvm.exec) {k : Nat} {v : Value} (hp : pc + 2 = pc') (hd : decode c.code pc = .ok (.astore k, 2)) (hv : v.isRef = true) (hl : storeLocals Ls k v = some Ls') (k : own_Goes p e below T (mkF m pc' Ls' st) Q) : own_Goes p e below T (mkF m pc Ls (v :: st)) Q := by
  subst hp; exact own_step (fun _ q => XS.astore X.here hx rfl hd rfl hv hl q) k
theorem own_astoreN (X : Stand p l e R s m args below meth c T locs cells slots) (hx : p.tables.exec = Jvm.exec) {k : Fin 4} {v : Value} (hp : pc + 1 = pc') (hd : decode c.code pc = .ok (.astore_n k, 1)) (hv : v.isRef = true) (hl : storeLocals Ls k.val v = some Ls') (k : own_Goes p e below T (mkF m pc' Ls' st) Q) : own_Goes p e below T (mkF m pc Ls (v :: st)) Q := by
  subst hp; exact own_step (fun _ q => XS.astoreN X.here hx rfl hd rfl hv hl q) k
theorem own_iconst (X : Stand p l e R s m args below meth c T locs cells slots) (hx : p.tables.exec = Jvm.exec) {i : Int} {v : Int32} (hp : pc + 1 = pc') (hd : decode c.code pc = .ok (.iconst i, 1)) (hv : Int32.ofInt i = v) (k : own_Goes p e below T (mkF m pc' Ls (.int v :: st)) Q) : own_Goes p e below T (mkF m pc Ls st) Q := by
  subst hp; subst hv; exact own_step (fun _ q => XS.iconst X.here hx rfl hd  q) k
theorem own_bipush (X : Stand p l e R s m args below meth c T locs cells slots) (hx : p.tables.exec = Jvm.exec) {i : Int} {v : Int32} (hp : pc + 2 = pc') (hd : decode c.code pc = .ok (.bipush i, 2)) (hv : (Int8.ofInt i).toInt32 = v) (k : own_Goes p e below T (mkF m pc' Ls (.int v :: st)) Q) : own_Goes p e below T (mkF m pc Ls st) Q := by
  subst hp; subst hv; exact own_step (fun _ q => XS.bipush X.here hx rfl hd  q) k
theorem own_sipush (X : Stand p l e R s m args below meth c T locs cells slots) (hx : p.tables.exec = Jvm.exec) {i : Int} {v : Int32} (hp : pc + 3 = pc') (hd : decode c.code pc = .ok (.sipush i, 3)) (hv : (Int16.ofInt i).toInt32 = v) (k : own_Goes p e below T (mkF m pc' Ls (.int v :: st)) Q) : own_Goes p e below T (mkF m pc Ls st) Q := by
  subst hp; subst hv; exact own_step (fun _ q => XS.sipush X.here hx rfl hd  q) k
theorem own_lconst (X : Stand p l e R s m args below meth c T locs cells slots) (hx : p.tables.exec = Jvm.exec) {i : Fin 2} {v : Int64} (hp : pc + 1 = pc') (hd : decode c.code pc = .ok (.lconst i, 1)) (hv : Int64.ofNat i = v) (k : own_Goes p e below T (mkF m pc' Ls (.long v :: st)) Q) : own_Goes p e below T (mkF m pc Ls st) Q := by
  subst hp; subst hv; exact own_step (fun _ q => XT.lconst X.here hx rfl hd  q) k
theorem own_anull (X : Stand p l e R s m args below meth c T locs cells slots) (hx : p.tables.exec = Jvm.exec)  (hp : pc + 1 = pc') (hd : decode c.code pc = .ok (.aconst_null, 1))  (k : own_Goes p e below T (mkF m pc' Ls (.null :: st)) Q) : own_Goes p e below T (mkF m pc Ls st) Q := by
  subst hp; exact own_step (fun _ q => XS.aconstNull X.here hx rfl hd  q) k
theorem own_iadd (X : Stand p l e R s m args below meth c T locs cells slots) (hx : p.tables.exec = Jvm.exec) {x y v : Int32} (hp : pc + 1 = pc') (hd : decode c.code pc = .ok (.iadd, 1)) (hv : x + y = v) (k : own_Goes p e below T (mkF m pc' Ls (.int v :: st)) Q) : own_Goes p e below T (mkF m pc Ls (.int y :: .int x :: st)) Q := by
  subst hp; subst hv; exact own_step (fun _ q => XS.iadd X.here hx rfl hd rfl q) k
theorem own_isub (X : Stand p l e R s m args below meth c T locs cells slots) (hx : p.tables.exec = Jvm.exec) {x y v : Int32} (hp : pc + 1 = pc') (hd : decode c.code pc = .ok (.isub, 1)) (hv : x - y = v) (k : own_Goes p e below T (mkF m pc' Ls (.int v :: st)) Q) : own_Goes p e below T (mkF m pc Ls (.int y :: .int x :: st)) Q := by
  subst hp; subst hv; exact own_step (fun _ q => XS.isub X.here hx rfl hd rfl q) k
theorem own_imul (X : Stand p l e R s m args below meth c T locs cells slots) (hx : p.tables.exec = Jvm.exec) {x y v : Int32} (hp : pc + 1 = pc') (hd : decode c.code pc = .ok (.imul, 1)) (hv : x * y = v) (k : own_Goes p e below T (mkF m pc' Ls (.int v :: st)) Q) : own_Goes p e below T (mkF m pc Ls (.int y :: .int x :: st)) Q := by
  subst hp; subst hv; exact own_step (fun _ q => XS.imul X.here hx rfl hd rfl q) k
theorem own_iand (X : Stand p l e R s m args below meth c T locs cells slots) (hx : p.tables.exec = Jvm.exec) {x y v : Int32} (hp : pc + 1 = pc') (hd : decode c.code pc = .ok (.iand, 1)) (hv : x &&& y = v) (k : own_Goes p e below T (mkF m pc' Ls (.int v :: st)) Q) : own_Goes p e below T (mkF m pc Ls (.int y :: .int x :: st)) Q := by
  subst hp; subst hv; exact own_step (fun _ q => XS.iand X.here hx rfl hd rfl q) k
theorem own_ior (X : Stand p l e R s m args below meth c T locs cells slots) (hx : p.tables.exec = Jvm.exec) {x y v : Int32} (hp : pc + 1 = pc') (hd : decode c.code pc = .ok (.ior, 1)) (hv : x ||| y = v) (k : own_Goes p e below T (mkF m pc' Ls (.int v :: st)) Q) : own_Goes p e below T (mkF m pc Ls (.int y :: .int x :: st)) Q := by
  subst hp; subst hv; exact own_step (fun _ q => XT.ior X.here hx rfl hd rfl q) k
theorem own_ixor (X : Stand p l e R s m args below meth c T locs cells slots) (hx : p.tables.exec = Jvm.exec) {x y v : Int32} (hp : pc + 1 = pc') (hd : decode c.code pc = .ok (.ixor, 1)) (hv : x ^^^ y = v) (k : own_Goes p e below T (mkF m pc' Ls (.int v :: st)) Q) : own_Goes p e below T (mkF m pc Ls (.int y :: .int x :: st)) Q := by
  subst hp; subst hv; exact own_step (fun _ q => XT.ixor X.here hx rfl hd rfl q) k
theorem own_ishl (X : Stand p l e R s m args below meth c T locs cells slots) (hx : p.tables.exec = Jvm.exec) {x y v : Int32} (hp : pc + 1 = pc') (hd : decode c.code pc = .ok (.ishl, 1)) (hv : x <<< (y &&& 31) = v) (k : own_Goes p e below T (mkF m pc' Ls (.int v :: st)) Q) : own_Goes p e below T (mkF m pc Ls (.int y :: .int x :: st)) Q := by
  subst hp; subst hv; exact own_step (fun _ q => XT.ishl X.here hx rfl hd rfl q) k
theorem own_ishr (X : Stand p l e R s m args below meth c T locs cells slots) (hx : p.tables.exec = Jvm.exec) {x y v : Int32} (hp : pc + 1 = pc') (hd : decode c.code pc = .ok (.ishr, 1)) (hv : x >>> (y &&& 31) = v) (k : own_Goes p e below T (mkF m pc' Ls (.int v :: st)) Q) : own_Goes p e below T (mkF m pc Ls (.int y :: .int x :: st)) Q := by
  subst hp; subst hv; exact own_step (fun _ q => XT.ishr X.here hx rfl hd rfl q) k
theorem own_iushr (X : Stand p l e R s m args below meth c T locs cells slots) (hx : p.tables.exec = Jvm.exec) {x y v : Int32} (hp : pc + 1 = pc') (hd : decode c.code pc = .ok (.iushr, 1)) (hv : XT.ushr x y = v) (k : own_Goes p e below T (mkF m pc' Ls (.int v :: st)) Q) : own_Goes p e below T (mkF m pc Ls (.int y :: .int x :: st)) Q := by
  subst hp; subst hv; exact own_step (fun _ q => XT.iushr X.here hx rfl hd rfl q) k
theorem own_idiv (X : Stand p l e R s m args below meth c T locs cells slots) (hx : p.tables.exec = Jvm.exec) {x y v : Int32} (hp : pc + 1 = pc') (hd : decode c.code pc = .ok (.idiv, 1)) (hy : y ≠ 0) (hv : x / y = v) (k : own_Goes p e below T (mkF m pc' Ls (.int v :: st)) Q) : own_Goes p e below T (mkF m pc Ls (.int y :: .int x :: st)) Q := by
  subst hp; subst hv; exact own_step (fun _ q => XS.idiv X.here hx rfl hd rfl hy q) k
theorem own_irem (X : Stand p l e R s m args below meth c T locs cells slots) (hx : p.tables.exec = Jvm.exec) {x y v : Int32} (hp : pc + 1 = pc') (hd : decode c.code pc = .ok (.irem, 1)) (hy : y ≠ 0) (hv : x % y = v) (k : own_Goes p e below T (mkF m pc' Ls (.int v :: st)) Q) : own_Goes p e below T (mkF m pc Ls (.int y :: .int x :: st)) Q := by
  subst hp; subst hv; exact own_step (fun _ q => iremM X hx rfl hd rfl hy q) k
theorem own_ladd (X : Stand p l e R s m args below meth c T locs cells slots) (hx : p.tables.exec = Jvm.exec) {x y v : Int64} (hp : pc + 1 = pc') (hd : decode c.code pc = .ok (.ladd, 1)) (hv : x + y = v) (k : own_Goes p e below T (mkF m pc' Ls (.long v :: st)) Q) : own_Goes p e below T (mkF m pc Ls (.long y :: .long x :: st)) Q := by
  subst hp; subst hv; exact own_step (fun _ q => XT.ladd X.here hx rfl hd rfl q) k
theorem own_lsub (X : Stand p l e R s m args below meth c T locs cells slots) (hx : p.tables.exec = Jvm.exec) {x y v : Int64} (hp : pc + 1 = pc') (hd : decode c.code pc = .ok (.lsub, 1)) (hv : x - y = v) (k : own_Goes p e below T (mkF m pc' Ls (.long v :: st)) Q) : own_Goes p e below T (mkF m pc Ls (.long y :: .long x :: st)) Q := by
  subst hp; subst hv; exact own_step (fun _ q => XT.lsub X.here hx rfl hd rfl q) k
theorem own_lmul (X : Stand p l e R s m args below meth c T locs cells slots) (hx : p.tables.exec = Jvm.exec) {x y v : Int64} (hp : pc + 1 = pc') (hd : decode c.code pc = .ok (.lmul, 1)) (hv : x * y = v) (k : own_Goes p e below T (mkF m pc' Ls (.long v :: st)) Q) : own_Goes p e below T (mkF m pc Ls (.long y :: .long x :: st)) Q := by
  subst hp; subst hv; exact own_step (fun _ q => XT.lmul X.here hx rfl hd rfl q) k
theorem own_land (X : Stand p l e R s m args below meth c T locs cells slots) (hx : p.tables.exec = Jvm.exec) {x y v : Int64} (hp : pc + 1 = pc') (hd : decode c.code pc = .ok (.land, 1)) (hv : x &&& y = v) (k : own_Goes p e below T (mkF m pc' Ls (.long v :: st)) Q) : own_Goes p e below T (mkF m pc Ls (.long y :: .long x :: st)) Q := by
  subst hp; subst hv; exact own_step (fun _ q => XT.land X.here hx rfl hd rfl q) k
theorem own_lor (X : Stand p l e R s m args below meth c T locs cells slots) (hx : p.tables.exec = Jvm.exec) {x y v : Int64} (hp : pc + 1 = pc') (hd : decode c.code pc = .ok (.lor, 1)) (hv : x ||| y = v) (k : own_Goes p e below T (mkF m pc' Ls (.long v :: st)) Q) : own_Goes p e below T (mkF m pc Ls (.long y :: .long x :: st)) Q := by
  subst hp; subst hv; exact own_step (fun _ q => XT.lor X.here hx rfl hd rfl q) k
theorem own_lxor (X : Stand p l e R s m args below meth c T locs cells slots) (hx : p.tables.exec = Jvm.exec) {x y v : Int64} (hp : pc + 1 = pc') (hd : decode c.code pc = .ok (.lxor, 1)) (hv : x ^^^ y = v) (k : own_Goes p e below T (mkF m pc' Ls (.long v :: st)) Q) : own_Goes p e below T (mkF m pc Ls (.long y :: .long x :: st)) Q := by
  subst hp; subst hv; exact own_step (fun _ q => XT.lxor X.here hx rfl hd rfl q) k
theorem own_ldiv (X : Stand p l e R s m args below meth c T locs cells slots) (hx : p.tables.exec = Jvm.exec) {x y v : Int64} (hp : pc + 1 = pc') (hd : decode c.code pc = .ok (.ldiv, 1)) (hy : y ≠ 0) (hv : x / y = v) (k : own_Goes p e below T (mkF m pc' Ls (.long v :: st)) Q) : own_Goes p e below T (mkF m pc Ls (.long y :: .long x :: st)) Q := by
  subst hp; subst hv; exact own_step (fun _ q => XT.ldiv X.here hx rfl hd rfl hy q) k
theorem own_ineg (X : Stand p l e R s m args below meth c T locs cells slots) (hx : p.tables.exec = Jvm.exec) {x v : Int32} (hp : pc + 1 = pc') (hd : decode c.code pc = .ok (.ineg, 1)) (hv : -x = v) (k : own_Goes p e below T (mkF m pc' Ls (.int v :: st)) Q) : own_Goes p e below T (mkF m pc Ls (.int x :: st)) Q := by
  subst hp; subst hv; exact own_step (fun _ q => XS.ineg X.here hx rfl hd rfl q) k
theorem own_lneg (X : Stand p l e R s m args below meth c T locs cells slots) (hx : p.tables.exec = Jvm.exec) {x v : Int64} (hp : pc + 1 = pc') (hd : decode c.code pc = .ok (.lneg, 1)) (hv : -x = v) (k : own_Goes p e below T (mkF m pc' Ls (.long v :: st)) Q) : own_Goes p e below T (mkF m pc Ls (.long x :: st)) Q := by
  subst hp; subst hv; exact own_step (fun _ q => XT.lneg X.here hx rfl hd rfl q) k
theorem own_i2l (X : Stand p l e R s m args below meth c T locs cells slots) (hx : p.tables.exec = Jvm.exec) {x : Int32} {v : Int64} (hp : pc + 1 = pc') (hd : decode c.code pc = .ok (.i2l, 1)) (hv : x.toInt64 = v) (k : own_Goes p e below T (mkF m pc' Ls (.long v :: st)) Q) : own_Goes p e below T (mkF m pc Ls (.int x :: st)) Q := by
  subst hp; subst hv; exact own_step (fun _ q => XT.i2l X.here hx rfl hd rfl q) k
theorem own_l2i (X : Stand p l e R s m args below meth c T locs cells slots) (hx : p.tables.exec = Jvm.exec) {x : Int64} {v : Int32} (hp : pc + 1 = pc') (hd : decode c.code pc = .ok (.l2i, 1)) (hv : x.toInt32 = v) (k : own_Goes p e below T (mkF m pc' Ls (.int v :: st)) Q) : own_Goes p e below T (mkF m pc Ls (.long x :: st)) Q := by
  subst hp; subst hv; exact own_step (fun _ q => XT.l2i X.here hx rfl hd rfl q) k
theorem own_i2b (X : Stand p l e R s m args below meth c T locs cells slots) (hx : p.tables.exec = Jvm.exec) {x v : Int32} (hp : pc + 1 = pc') (hd : decode c.code pc = .ok (.i2b, 1)) (hv : x.toInt8.toInt32 = v) (k : own_Goes p e below T (mkF m pc' Ls (.int v :: st)) Q) : own_Goes p e below T (mkF m pc Ls (.int x :: st)) Q := by
  subst hp; subst hv; exact own_step (fun _ q => XT.i2b X.here hx rfl hd rfl q) k
theorem own_i2c (X : Stand p l e R s m args below meth c T locs cells slots) (hx : p.tables.exec = Jvm.exec) {x v : Int32} (hp : pc + 1 = pc') (hd : decode c.code pc = .ok (.i2c, 1)) (hv : x.toUInt32.toUInt16.toUInt32.toInt32 = v) (k : own_Goes p e below T (mkF m pc' Ls (.int v :: st)) Q) : own_Goes p e below T (mkF m pc Ls (.int x :: st)) Q := by
  subst hp; subst hv; exact own_step (fun _ q => XT.i2c X.here hx rfl hd rfl q) k
theorem own_i2s (X : Stand p l e R s m args below meth c T locs cells slots) (hx : p.tables.exec = Jvm.exec) {x v : Int32} (hp : pc + 1 = pc') (hd : decode c.code pc = .ok (.i2s, 1)) (hv : x.toInt16.toInt32 = v) (k : own_Goes p e below T (mkF m pc' Ls (.int v :: st)) Q) : own_Goes p e below T (mkF m pc Ls (.int x :: st)) Q := by
  subst hp; subst hv; exact own_step (fun _ q => XT.i2s X.here hx rfl hd rfl q) k
theorem own_lcmp (X : Stand p l e R s m args below meth c T locs cells slots) (hx : p.tables.exec = Jvm.exec) {x y : Int64} (hp : pc + 1 = pc') (hd : decode c.code pc = .ok (.lcmp, 1))  (k : own_Goes p e below T (mkF m pc' Ls (.int (XT.cmpL x y) :: st)) Q) : own_Goes p e below T (mkF m pc Ls (.long y :: .long x :: st)) Q := by
  subst hp; exact own_step (fun _ q => XT.lcmp X.here hx rfl hd rfl q) k
theorem own_iinc (X : Stand p l e R s m args below meth c T locs cells slots) (hx : p.tables.exec = Jvm.exec) {n : Nat} {i : Int} {x v : Int32} (hp : pc + 3 = pc') (hd : decode c.code pc = .ok (.iinc n i, 3)) (hl : Ls[n]? = some (.val (.int x))) (hv : x + Int32.ofInt i = v) (hl' : storeLocals Ls n (.int v) = some Ls') (k : own_Goes p e below T (mkF m pc' Ls' st) Q) : own_Goes p e below T (mkF m pc Ls st) Q := by
  subst hp; subst hv; exact own_step (fun _ q => XS.iinc X.here hx rfl hd hl hl' q) k
theorem own_dup (X : Stand p l e R s m args below meth c T locs cells slots) (hx : p.tables.exec = Jvm.exec) {x : Value} (hp : pc + 1 = pc') (hd : decode c.code pc = .ok (.dup, 1)) (hc : x.category = 1) (k : own_Goes p e below T (mkF m pc' Ls (x :: x :: st)) Q) : own_Goes p e below T (mkF m pc Ls (x :: st)) Q := by
  subst hp; exact own_step (fun _ q => XS.dup X.here hx rfl hd rfl hc q) k
theorem own_pop (X : Stand p l e R s m args below meth c T locs cells slots) (hx : p.tables.exec = Jvm.exec) {x : Value} (hp : pc + 1 = pc') (hd : decode c.code pc = .ok (.pop, 1)) (hc : x.category = 1) (k : own_Goes p e below T (mkF m pc' Ls st) Q) : own_Goes p e below T (mkF m pc Ls (x :: st)) Q := by
  subst hp; exact own_step (fun _ q => XT.pop X.here hx rfl hd rfl hc q) k
theorem own_goto (X : Stand p l e R s m args below meth c T locs cells slots) (hx : p.tables.exec = Jvm.exec) {o : Int} (hd : decode c.code pc = .ok (.goto o, 3)) (ho : 0 ≤ (pc : Int) + o) (hp : ((pc : Int) + o).toNat = pc') (k : own_Goes p e below T (mkF m pc' Ls st) Q) : own_Goes p e below T (mkF m pc Ls st) Q := own_step (fun _ q => XS.goto X.here hx rfl (pc0 := pc) (pc' := pc') rfl hd ho hp q) k
theorem own_ifT (X : Stand p l e R s m args below meth c T locs cells slots) (hx : p.tables.exec = Jvm.exec) {cd : ClassFile.Cond} {x : Int32} {o : Int} (hd : decode c.code pc = .ok (.ifCond cd o, 3)) (hc : ifCond.holds cd x = true) (ho : 0 ≤ (pc : Int) + o) (hp : ((pc : Int) + o).toNat = pc') (k : own_Goes p e below T (mkF m pc' Ls st) Q) : own_Goes p e below T (mkF m pc Ls (.int x :: st)) Q := own_step (fun _ q => XS.ifYes X.here hx rfl (pc0 := pc) (pc' := pc') rfl hd rfl hc ho hp q) k
theorem own_ifF (X : Stand p l e R s m args below meth c T locs cells slots) (hx : p.tables.exec = Jvm.exec) {cd : ClassFile.Cond} {x : Int32} {o : Int} (hp : pc + 3 = pc') (hd : decode c.code pc = .ok (.ifCond cd o, 3)) (hc : ifCond.holds cd x = false) (k : own_Goes p e below T (mkF m pc' Ls st) Q) : own_Goes p e below T (mkF m pc Ls (.int x :: st)) Q := by
  subst hp; exact own_step (fun _ q => XS.ifNo X.here hx rfl hd rfl hc q) k
theorem own_icmpT (X : Stand p l e R s m args below meth c T locs cells slots) (hx : p.tables.exec = Jvm.exec) {cd : ClassFile.Cond} {x y : Int32} {o : Int} (hd : decode c.code pc = .ok (.if_icmp cd o, 3)) (hc : if_icmp.holds cd x y = true) (ho : 0 ≤ (pc : Int) + o) (hp : ((pc : Int) + o).toNat = pc') (k : own_Goes p e below T (mkF m pc' Ls st) Q) : own_Goes p e below T (mkF m pc Ls (.int y :: .int x :: st)) Q := own_step (fun _ q => XS.icmpYes X.here hx rfl (pc0 := pc) (pc' := pc') rfl hd rfl hc ho hp q) k
theorem own_icmpF (X : Stand p l e R s m args below meth c T locs cells slots) (hx : p.tables.exec = Jvm.exec) {cd : ClassFile.Cond} {x y : Int32} {o : Int} (hp : pc + 3 = pc') (hd : decode c.code pc = .ok (.if_icmp cd o, 3)) (hc : if_icmp.holds cd x y = false) (k : own_Goes p e below T (mkF m pc' Ls st) Q) : own_Goes p e below T (mkF m pc Ls (.int y :: .int x :: st)) Q := by
  subst hp; exact own_step (fun _ q => XS.icmpNo X.here hx rfl hd rfl hc q) k
theorem own_acmpT (X : Stand p l e R s m args below meth c T locs cells slots) (hx : p.tables.exec = Jvm.exec) {cd : ClassFile.ACond} {x y : Value} {o : Int} (hd : decode c.code pc = .ok (.if_acmp cd o, 3)) (h1 : x.isRef = true) (h2 : y.isRef = true) (hc : XT.acmp cd x y = true) (ho : 0 ≤ (pc : Int) + o) (hp : ((pc : Int) + o).toNat = pc') (k : own_Goes p e below T (mkF m pc' Ls st) Q) : own_Goes p e below T (mkF m pc Ls (y :: x :: st)) Q := own_step (fun _ q => XT.acmpYes X.here hx rfl (pc0 := pc) (pc' := pc') rfl hd rfl h1 h2 hc ho hp q) k
theorem own_acmpF (X : Stand p l e R s m args below meth c T locs cells slots) (hx : p.tables.exec = Jvm.exec) {cd : ClassFile.ACond} {x y : Value} {o : Int} (hp : pc + 3 = pc') (hd : decode c.code pc = .ok (.if_acmp cd o, 3)) (h1 : x.isRef = true) (h2 : y.isRef = true) (hc : XT.acmp cd x y = false) (k : own_Goes p e below T (mkF m pc' Ls st) Q) : own_Goes p e below T (mkF m pc Ls (y :: x :: st)) Q := by
  subst hp; exact own_step (fun _ q => XT.acmpNo X.here hx rfl hd rfl h1 h2 hc q) k
theorem own_ldc (X : Stand p l e R s m args below meth c T locs cells slots) (hx : p.tables.exec = Jvm.exec) (hZ : Z.Warmed39 s.vm) {own : String} {index : Nat} {v : Int32} (hown : s.vm.findClass own = some m.cls) (w : (Jvm.Cond.constant own index v).before a0 Z = true) (hp : pc + 2 = pc') (hd : decode c.code pc = .ok (.ldc index, 2)) (k : own_Goes p e below T (mkF m pc' Ls (.int v :: st)) Q) : own_Goes p e below T (mkF m pc Ls st) Q := by
  subst hp; exact own_step (fun _ q => X.ldcI hx hown (mvT hZ w) rfl hd q) k
theorem own_ldc2_w (X : Stand p l e R s m args below meth c T locs cells slots) (hx : p.tables.exec = Jvm.exec) (hZ : Z.Warmed39 s.vm) {own : String} {index : Nat} {v : Int64} (hown : s.vm.findClass own = some m.cls) (w : (Jvm.Cond.constantLong own index v).before a0 Z = true) (hp : pc + 3 = pc') (hd : decode c.code pc = .ok (.ldc2_w index, 3)) (k : own_Goes p e below T (mkF m pc' Ls (.long v :: st)) Q) : own_Goes p e below T (mkF m pc Ls st) Q := by
  subst hp; exact own_step (fun _ q => X.ldc2J hx hown (mvT hZ w) rfl hd q) k
theorem own_retW (X : Stand p l e R s m args below meth c T locs cells slots) (hx : p.tables.exec = Jvm.exec) (hlk : meth.locks = false) {w : Option Value} (hv : meth.sig.returnType = none → w = none) {F : JFrame} (run : ∀ fs, (∀ (f : JFrame) (acts : List Action), f.method = m → f.locked = none → f.entered = [] → (doReturn e (T.setTop f) acts w).1 = T.setFrames fs) → Steps p.tables e below (T.setTop F) (T.setFrames fs)) {K : Option Value → Heap → List Loc → Prop} {rc rs : Nat} (hc : cells ≤ rc) (hs : slots ≤ rs) (hQ : K w T.heap locs) : own_Goes p e below T F (own_Ret s K rc rs) := by
  obtain ⟨fs, hr, hrun, hended, hW, hsame⟩ := X.leave (v := w) hv hlk
  exact ⟨_, _, run fs hr, hrun, hended, w, locs, rfl, hQ, ⟨_, rfl⟩, hW, hsame.mono hc hs⟩
theorem own_iret (X : Stand p l e R s m args below meth c T locs cells slots) (hx : p.tables.exec = Jvm.exec) (hlk : meth.locks = false) {z : Int32} (hret : meth.sig.returnType = some .int) (hd : decode c.code pc = .ok (.ireturn, 1)) {K : Option Value → Heap → List Loc → Prop} {rc rs : Nat} (hc : cells ≤ rc) (hs : slots ≤ rs) (hQ : K (some (.int z)) T.heap locs) : own_Goes p e below T (mkF m pc Ls (.int z :: st)) (own_Ret s K rc rs) :=
  own_retW X hx hlk (fun q => by rw [hret] at q; cases q) (fun fs hr => retOut X hx hret rfl (Or.inl ⟨rfl, Or.inl rfl, z, rfl⟩) hd hr) hc hs hQ
theorem own_zret (X : Stand p l e R s m args below meth c T locs cells slots) (hx : p.tables.exec = Jvm.exec) (hlk : meth.locks = false) {z : Int32} {t : FieldType} (hret : meth.sig.returnType = some t) (ht : t = .boolean ∨ t = .byte ∨ t = .char ∨ t = .short) (hd : decode c.code pc = .ok (.ireturn, 1)) {K : Option Value → Heap → List Loc → Prop} {rc rs : Nat} (hc : cells ≤ rc) (hs : slots ≤ rs) (hQ : K (some (.int (nar t z))) T.heap locs) : own_Goes p e below T (mkF m pc Ls (.int z :: st)) (own_Ret s K rc rs) :=
  own_retW X hx hlk (fun q => by rw [hret] at q; cases q) (fun fs hr => retN X hx hret ht hd hr) hc hs hQ
theorem own_lret (X : Stand p l e R s m args below meth c T locs cells slots) (hx : p.tables.exec = Jvm.exec) (hlk : meth.locks = false) {z : Int64} (hret : meth.sig.returnType = some .long) (hd : decode c.code pc = .ok (.lreturn, 1)) {K : Option Value → Heap → List Loc → Prop} {rc rs : Nat} (hc : cells ≤ rc) (hs : slots ≤ rs) (hQ : K (some (.long z)) T.heap locs) : own_Goes p e below T (mkF m pc Ls (.long z :: st)) (own_Ret s K rc rs) :=
  own_retW X hx hlk (fun q => by rw [hret] at q; cases q) (fun fs hr => retOut X hx hret rfl (Or.inr (Or.inl ⟨rfl, rfl, z, rfl⟩)) hd hr) hc hs hQ
theorem own_aret (X : Stand p l e R s m args below meth c T locs cells slots) (hx : p.tables.exec = Jvm.exec) (hlk : meth.locks = false) {z : Value} {t : FieldType} (hret : meth.sig.returnType = some t) (ht : t.isReference = true) (hz : z.isRef = true) (hd : decode c.code pc = .ok (.areturn, 1)) {K : Option Value → Heap → List Loc → Prop} {rc rs : Nat} (hc : cells ≤ rc) (hs : slots ≤ rs) (hQ : K (some z) T.heap locs) : own_Goes p e below T (mkF m pc Ls (z :: st)) (own_Ret s K rc rs) :=
  own_retW X hx hlk (fun q => by rw [hret] at q; cases q) (fun fs hr => retOut X hx hret (by cases t <;> simp [FieldType.isReference] at ht <;> cases z <;> simp [Value.isRef] at hz <;> rfl) (Or.inr (Or.inr (Or.inr (Or.inr ⟨rfl, ht, hz⟩)))) hd hr) hc hs hQ
theorem own_ret (X : Stand p l e R s m args below meth c T locs cells slots) (hx : p.tables.exec = Jvm.exec) (hlk : meth.locks = false) (hret : meth.sig.returnType = none) (hd : decode c.code pc = .ok (.return_, 1)) {K : Option Value → Heap → List Loc → Prop} {rc rs : Nat} (hc : cells ≤ rc) (hs : slots ≤ rs) (hQ : K none T.heap locs) : own_Goes p e below T (mkF m pc Ls []) (own_Ret s K rc rs) :=
  own_retW X hx hlk (fun _ => rfl) (fun fs hr => X.returnOut hx hret hd hr) hc hs hQ
theorem own_dload (X : Stand p l e R s m args below meth c T locs cells slots) (hx : p.tables.exec = Jvm.exec) {k : Nat} {v : UInt64} (hp : pc + 2 = pc') (hd : decode c.code pc = .ok (.dload k, 2)) (hl : Ls[k]? = some (.val (.double v))) (k : own_Goes p e below T (mkF m pc' Ls (.double v :: st)) Q) : own_Goes p e below T (mkF m pc Ls st) Q := by
  subst hp; exact own_step (fun _ q => XS.dload X.here hx rfl hd hl q) k
theorem own_dloadN (X : Stand p l e R s m args below meth c T locs cells slots) (hx : p.tables.exec = Jvm.exec) {k : Fin 4} {v : UInt64} (hp : pc + 1 = pc') (hd : decode c.code pc = .ok (.dload_n k, 1)) (hl : Ls[k.val]? = some (.val (.double v))) (k : own_Goes p e below T (mkF m pc' Ls (.double v :: st)) Q) : own_Goes p e below T (mkF m pc Ls st) Q := by
  subst hp; exact own_step (fun _ q => XS.dloadN X.here hx rfl hd hl q) k
theorem own_dstore (X : Stand p l e R s m args below meth c T locs cells slots) (hx : p.tables.exec = Jvm.exec) {k : Nat} {v : UInt64} (hp : pc + 2 = pc') (hd : decode c.code pc = .ok (.dstore k, 2)) (hl : storeLocals Ls k (.double v) = some Ls') (k : own_Goes p e below T (mkF m pc' Ls' st) Q) : own_Goes p e below T (mkF m pc Ls (.double v :: st)) Q := by
  subst hp; exact own_step (fun _ q => XS.dstore X.here hx rfl hd rfl hl q) k
theorem own_dstoreN (X : Stand p l e R s m args below meth c T locs cells slots) (hx : p.tables.exec = Jvm.exec) {k : Fin 4} {v : UInt64} (hp : pc + 1 = pc') (hd : decode c.code pc = .ok (.dstore_n k, 1)) (hl : storeLocals Ls k.val (.double v) = some Ls') (k : own_Goes p e below T (mkF m pc' Ls' st) Q) : own_Goes p e below T (mkF m pc Ls (.double v :: st)) Q := by
  subst hp; exact own_step (fun _ q => XS.dstoreN X.here hx rfl hd rfl hl q) k
theorem own_dconst0 (X : Stand p l e R s m args below meth c T locs cells slots) (hx : p.tables.exec = Jvm.exec) {v : UInt64} (hp : pc + 1 = pc') (hd : decode c.code pc = .ok (.dconst 0, 1)) (hv : FP.dconst0 = v) (k : own_Goes p e below T (mkF m pc' Ls (.double v :: st)) Q) : own_Goes p e below T (mkF m pc Ls st) Q := by
  subst hp; exact own_step (fun _ q => XS.dconst0 X.here hx rfl hd hv q) k
theorem own_dconst1 (X : Stand p l e R s m args below meth c T locs cells slots) (hx : p.tables.exec = Jvm.exec) {v : UInt64} (hp : pc + 1 = pc') (hd : decode c.code pc = .ok (.dconst 1, 1)) (hv : FP.dconst1 = v) (k : own_Goes p e below T (mkF m pc' Ls (.double v :: st)) Q) : own_Goes p e below T (mkF m pc Ls st) Q := by
  subst hp; exact own_step (fun _ q => XS.dconst1 X.here hx rfl hd hv q) k
theorem own_i2d (X : Stand p l e R s m args below meth c T locs cells slots) (hx : p.tables.exec = Jvm.exec) {x : Int32} {v : UInt64} (hp : pc + 1 = pc') (hd : decode c.code pc = .ok (.i2d, 1)) (hv : FP.i2d x = v) (k : own_Goes p e below T (mkF m pc' Ls (.double v :: st)) Q) : own_Goes p e below T (mkF m pc Ls (.int x :: st)) Q := by
  subst hp; exact own_step (fun _ q => XS.i2dS X.here hx rfl hd rfl hv q) k
theorem own_l2d (X : Stand p l e R s m args below meth c T locs cells slots) (hx : p.tables.exec = Jvm.exec) {x : Int64} {v : UInt64} (hp : pc + 1 = pc') (hd : decode c.code pc = .ok (.l2d, 1)) (hv : FP.l2d x = v) (k : own_Goes p e below T (mkF m pc' Ls (.double v :: st)) Q) : own_Goes p e below T (mkF m pc Ls (.long x :: st)) Q := by
  subst hp; exact own_step (fun _ q => XS.l2dS X.here hx rfl hd rfl hv q) k
theorem own_dneg (X : Stand p l e R s m args below meth c T locs cells slots) (hx : p.tables.exec = Jvm.exec) {x v : UInt64} (hp : pc + 1 = pc') (hd : decode c.code pc = .ok (.dneg, 1)) (hv : FP.dneg x = v) (k : own_Goes p e below T (mkF m pc' Ls (.double v :: st)) Q) : own_Goes p e below T (mkF m pc Ls (.double x :: st)) Q := by
  subst hp; exact own_step (fun _ q => XS.dnegS X.here hx rfl hd rfl hv q) k
theorem own_dcmp (X : Stand p l e R s m args below meth c T locs cells slots) (hx : p.tables.exec = Jvm.exec) {o : CmpOp} {x y : UInt64} {v : Int32} (hp : pc + 1 = pc') (hd : decode c.code pc = .ok (.dcmp o, 1)) (hv : cmpValue (FP.dcmp x y) o = v) (k : own_Goes p e below T (mkF m pc' Ls (.int v :: st)) Q) : own_Goes p e below T (mkF m pc Ls (.double y :: .double x :: st)) Q := by
  subst hp; exact own_step (fun _ q => XS.dcmpS X.here hx rfl hd rfl hv q) k
theorem own_dadd (X : Stand p l e R s m args below meth c T locs cells slots) (hx : p.tables.exec = Jvm.exec) {x y v : UInt64} (hp : pc + 1 = pc') (hd : decode c.code pc = .ok (.dadd, 1)) (hn : Jvm.Free.Fl.NoNaN64 (FP.dadd x y)) (hv : FP.dadd x y = v) (k : own_Goes p e below T (mkF m pc' Ls (.double v :: st)) Q) : own_Goes p e below T (mkF m pc Ls (.double y :: .double x :: st)) Q := by
  subst hp; exact own_step (fun _ q => XS.daddS X.here hx rfl hd rfl hn hv q) k
theorem own_dsub (X : Stand p l e R s m args below meth c T locs cells slots) (hx : p.tables.exec = Jvm.exec) {x y v : UInt64} (hp : pc + 1 = pc') (hd : decode c.code pc = .ok (.dsub, 1)) (hn : Jvm.Free.Fl.NoNaN64 (FP.dsub x y)) (hv : FP.dsub x y = v) (k : own_Goes p e below T (mkF m pc' Ls (.double v :: st)) Q) : own_Goes p e below T (mkF m pc Ls (.double y :: .double x :: st)) Q := by
  subst hp; exact own_step (fun _ q => XS.dsubS X.here hx rfl hd rfl hn hv q) k
theorem own_dmul (X : Stand p l e R s m args below meth c T locs cells slots) (hx : p.tables.exec = Jvm.exec) {x y v : UInt64} (hp : pc + 1 = pc') (hd : decode c.code pc = .ok (.dmul, 1)) (hn : Jvm.Free.Fl.NoNaN64 (FP.dmul x y)) (hv : FP.dmul x y = v) (k : own_Goes p e below T (mkF m pc' Ls (.double v :: st)) Q) : own_Goes p e below T (mkF m pc Ls (.double y :: .double x :: st)) Q := by
  subst hp; exact own_step (fun _ q => XS.dmulS X.here hx rfl hd rfl hn hv q) k
theorem own_ddiv (X : Stand p l e R s m args below meth c T locs cells slots) (hx : p.tables.exec = Jvm.exec) {x y v : UInt64} (hp : pc + 1 = pc') (hd : decode c.code pc = .ok (.ddiv, 1)) (hn : Jvm.Free.Fl.NoNaN64 (FP.ddiv x y)) (hv : FP.ddiv x y = v) (k : own_Goes p e below T (mkF m pc' Ls (.double v :: st)) Q) : own_Goes p e below T (mkF m pc Ls (.double y :: .double x :: st)) Q := by
  subst hp; exact own_step (fun _ q => XS.ddivS X.here hx rfl hd rfl hn hv q) k
theorem own_ldcD (X : Stand p l e R s m args below meth c T locs cells slots) (hx : p.tables.exec = Jvm.exec) (hZ : Z.Warmed39 s.vm) {own : String} {index : Nat} {v : UInt64} (hown : s.vm.findClass own = some m.cls) (w : (Jvm.Cond.constantDouble own index v).before a0 Z = true) (hp : pc + 3 = pc') (hd : decode c.code pc = .ok (.ldc2_w index, 3)) (k : own_Goes p e below T (mkF m pc' Ls (.double v :: st)) Q) : own_Goes p e below T (mkF m pc Ls st) Q := by
  subst hp; exact own_step (fun t q => X.ldc2DoubleC hx hown (mvT hZ w) (g := mkF m pc Ls st) rfl hd t q) k
theorem own_dret (X : Stand p l e R s m args below meth c T locs cells slots) (hx : p.tables.exec = Jvm.exec) (hlk : meth.locks = false) {z : UInt64} (hret : meth.sig.returnType = some .double) (hd : decode c.code pc = .ok (.dreturn, 1)) {K : Option Value → Heap → List Loc → Prop} {rc rs : Nat} (hc : cells ≤ rc) (hs : slots ≤ rs) (hQ : K (some (.double z)) T.heap locs) : own_Goes p e below T (mkF m pc Ls (.double z :: st)) (own_Ret s K rc rs) :=
  own_retW X hx hlk (fun q => by rw [hret] at q; cases q) (fun fs hr => retOut X hx hret rfl (Or.inr (Or.inr (Or.inl ⟨rfl, rfl, z, rfl⟩))) hd hr) hc hs hQ
theorem own_getF (X : Stand p l e R s m args below meth c T locs cells slots) (hx : p.tables.exec = Jvm.exec) (hZ : Z.Warmed39 s.vm) {own R0 O n d host : String} {index : Nat} (hown : s.vm.findClass own = some m.cls) (w : (Jvm.Cond.fieldLink own index R0 n d).before a0 Z = true ∨ (Jvm.Cond.fieldLinkNest own index R0 n d host).before a0 Z = true) (via : Via Z R0 O n d) (eT : T.heap = h) {a : Addr} {v : Value} (F : Fld Z h a O n d v) (hp : pc + 3 = pc') (hd : decode c.code pc = .ok (.getfield index, 3))
    (k : ∀ T', Stand p l e R s m args below meth c T' locs cells slots → T'.heap = h → own_Goes p e below T' (mkF m pc' Ls (v :: st)) Q) : own_Goes p e below T (mkF m pc Ls (.ref a :: st)) Q := by
  subst hp
  obtain ⟨T', X', e', stp⟩ := getF X hx hZ hown w via eT F (g := mkF m pc Ls (.ref a :: st)) rfl rfl hd
  exact own_step stp (k T' X' e')
theorem own_putF (X : Stand p l e R s m args below meth c T locs cells slots) (hx : p.tables.exec = Jvm.exec) (hZ : Z.Warmed39 s.vm) {own R0 O n d host C : String} {index kk : Nat} {ty : FieldType} (hown : s.vm.findClass own = some m.cls) (w : (Jvm.Cond.fieldLink own index R0 n d).before a0 Z = true ∨ (Jvm.Cond.fieldLinkNest own index R0 n d host).before a0 Z = true) (via : Via Z R0 O n d) (eT : T.heap = h) {a : Addr} {v old : Value} (F : Fld Z h a O n d old) (E : Exa Z h a C)
    (L : (Jvm.Cond.lays C O n d).before a0 Z = true ∨ ((Jvm.Cond.laysFinal C O n d).before a0 Z = true ∧ own = O ∧ meth.name = "<init>")) (wi : (Jvm.Cond.instantiable C kk).before a0 Z = true) (hty : parseFieldDescriptor d = some ty) (hn : narrow ty v = v) (hf : fits ty v = true) (hp : pc + 3 = pc') (hd : decode c.code pc = .ok (.putfield index, 3))
    (k : ∀ T' h', Stand p l e R s m args below meth c T' (locs ++ [⟨a, Jvm.RoadKit.slotOf Z O n d⟩]) cells slots → T'.heap = h' → Wr h h' a (Jvm.RoadKit.slotOf Z O n d) v → own_Goes p e below T' (mkF m pc' Ls st) Q) : own_Goes p e below T (mkF m pc Ls (v :: .ref a :: st)) Q := by
  subst hp
  obtain ⟨T', h', X', e', W', stp⟩ := putF X hx hZ hown w via eT F E L wi hty hn hf (g := mkF m pc Ls (v :: .ref a :: st)) rfl rfl hd
  exact own_step stp (k T' h' X' e' W')
theorem own_getS (X : Stand p l e R s m args below meth c T locs cells slots) (hx : p.tables.exec = Jvm.exec) (hZ : Z.Warmed39 s.vm) {own R0 O n d : String} {index : Nat} (hown : s.vm.findClass own = some m.cls) (w : (Jvm.Cond.fieldLink own index R0 n d).before a0 Z = true) (via : Via Z R0 O n d) (eT : T.heap = h) {v : Value} (F : Sta Z h O n d v) (hp : pc + 3 = pc') (hd : decode c.code pc = .ok (.getstatic index, 3))
    (k : ∀ T', Stand p l e R s m args below meth c T' locs cells slots → T'.heap = h → own_Goes p e below T' (mkF m pc' Ls (v :: st)) Q) : own_Goes p e below T (mkF m pc Ls st) Q := by
  subst hp
  obtain ⟨T', X', e', stp⟩ := getS X hx hZ (host := "") hown w via eT F (g := mkF m pc Ls st) rfl hd
  exact own_step stp (k T' X' e')
theorem own_new (X : Stand p l e R s m args below meth c T locs cells slots) (hx : p.tables.exec = Jvm.exec) (hZ : Z.Warmed39 s.vm) {own C : String} {index n : Nat} (hown : s.vm.findClass own = some m.cls) (w : (Jvm.Cond.classLink own index C).before a0 Z = true) (wi : (Jvm.Cond.instantiable C n).before a0 Z = true) (wz : (Jvm.Cond.initialized C).before a0 Z = true) (eT : T.heap = h) (hp : pc + 3 = pc') (hd : decode c.code pc = .ok (.new index, 3)) (hc : cells + 1 ≤ R.cells) (hl : slots + n ≤ R.slots)
    (k : ∀ T' h', Stand p l e R s m args below meth c T' locs (cells + 1) (slots + n) → T'.heap = h' → Ext h h' → Exa Z h' h.size C → (∀ {O nm d : String} {ty : FieldType}, Laid Z a0 C O nm d → parseFieldDescriptor d = some ty → Fld Z h' h.size O nm d (defaultValue ty)) → own_Goes p e below T' (mkF m pc' Ls (.ref h.size :: st)) Q) : own_Goes p e below T (mkF m pc Ls st) Q := by
  subst hp
  obtain ⟨T', h', X', e', E', A', D', -, stp⟩ := newO X hx hZ hown w wi wz eT (g := mkF m pc Ls st) rfl hd hc hl
  exact own_step stp (k T' h' X' e' E' A' D')
theorem own_initO (X : Stand p l e R s m args below meth c T locs cells slots) (hx : p.tables.exec = Jvm.exec) (hZ : Z.Warmed39 s.vm) {own : String} {idx : Nat} (hown : s.vm.findClass own = some m.cls) (w1 : (Jvm.Cond.methodLink own idx Lib.objectInit).before a0 Z = true) (w2 : (Jvm.Cond.instanceMethod Lib.objectInit).before a0 Z = true) (w3 : (Jvm.Cond.code Lib.objectInit ⟨#[0xb1]⟩ 1 none).before a0 Z = true) (eT : T.heap = h) (hsize : Ls.size = c.maxLocals) {a : Addr} (hp : pc + 3 = pc') (hd : decode c.code pc = .ok (.invokespecial idx, 3)) (hf : 1 ≤ R.frames) {W : Nat} (hW : (st.map fun v => v.category).sum ≤ W) (hl : W + 12 ≤ R.locals)
    (k : ∀ T', Stand p l e R s m args below meth c T' locs cells slots → T'.heap = h → own_Goes p e below T' (mkF m pc' Ls st) Q) : own_Goes p e below T (mkF m pc Ls (.ref a :: st)) Q := by
  subst hp
  obtain ⟨T', X', e', stp⟩ := initO X hx hZ hown w1 w2 w3 eT (g := mkF m pc Ls (.ref a :: st)) rfl hsize rfl hd hf (W := W) (by show 2 * 0 + _ ≤ _; omega) hl
  exact own_step stp (k T' X' e')
theorem own_callS (X : Stand p l e R s m args below meth c T locs cells slots) (hx : p.tables.exec = Jvm.exec) (hZ : Z.Warmed39 s.vm) {own : String} {index : Nat} {y : MethodName} {bytes : ByteArray} {maxL : Nat} {rt : Option FieldType} (hown : s.vm.findClass own = some m.cls) (w1 : (Jvm.Cond.methodLink own index y).before a0 Z = true) (w2 : (Jvm.Cond.static y).before a0 Z = true) (w3 : (Jvm.Cond.initialized y.cls).before a0 Z = true) (w4 : (Jvm.Cond.code y bytes maxL rt).before a0 Z = true) (hy : y.cls ≠ "java/lang/invoke/MethodHandle" ∧ y.cls ≠ "java/lang/invoke/VarHandle") {rm : Room} {as' : Array Value} {K : Option Value → Heap → List Loc → Prop} {W : Nat} (hM : MetFree l y (head1 [Jvm.Cond.code y bytes maxL rt] rm) (fun a U => a = as' ∧ Z.Warmed39 U.vm ∧ U.heap = h) (fun _ _ _ _ _ => True) (fun _ U o U' => ∃ v L, o = .returned v ∧ K v U'.heap L ∧ FrameEnd U o U' L rm.cells rm.slots)) (hf : rm.frames + 1 ≤ R.frames) (hl : W + (maxL + 11) + rm.locals ≤ R.locals) (hc : cells + rm.cells ≤ R.cells) (hs : slots + rm.slots ≤ R.slots) (eT : T.heap = h) (hsize : Ls.size = c.maxLocals) {argsL rest : List Value} (has : argsL.toArray = as') (hlen : ∀ sig, parseMethodDescriptor y.desc = some sig → argsL.length = sig.parameters.length) (hst : st = argsL.reverse ++ rest) (hW : (rest.map fun v => v.category).sum ≤ W) (hp : pc + 3 = pc') (hd : decode c.code pc = .ok (.invokestatic index, 3))
    (k : ∀ v T' L, Stand p l e R s m args below meth c T' (locs ++ L) (cells + rm.cells) (slots + rm.slots) → K v T'.heap L → own_Goes p e below T' (mkF m pc' Ls (v.toList ++ rest)) Q) : own_Goes p e below T (mkF m pc Ls st) Q := by
  subst hp
  obtain ⟨v, _, ⟨T', L', k', n'⟩, -, X', ⟨Lc, hQ, l1, y1, z1⟩, stp⟩ := Jvm.LawKit.callS X hx (y := y) hown (mvT hZ w1) (mvT hZ w2) (mvT hZ w3) (mvT hZ w4) hy (backOf (W := W) hM hZ w4 w3 hf hl) (g := mkF m pc Ls st) rfl hsize (argsL := argsL) (rest := rest) hlen hst (by show 2 * 0 + _ ≤ _; omega) hd (fun _ _ => ⟨has, eT, hc, hs⟩)
  dsimp only [Pt.U, Pt.locs, Pt.cells, Pt.slots] at X' l1 y1 z1 stp hQ
  subst l1 y1 z1
  exact own_step stp (k v T' Lc X' hQ)
theorem own_callC (X : Stand p l e R s m args below meth c T locs cells slots) (hx : p.tables.exec = Jvm.exec) (hZ : Z.Warmed39 s.vm) {own : String} {index : Nat} {y : MethodName} {bytes : ByteArray} {maxL : Nat} {a : Addr} (hy1 : y.name = "<init>") (hown : s.vm.findClass own = some m.cls) (w1 : (Jvm.Cond.methodLink own index y).before a0 Z = true) (w2 : (Jvm.Cond.instanceMethod y).before a0 Z = true) (w3 : (Jvm.Cond.initialized y.cls).before a0 Z = true) (w4 : (Jvm.Cond.code y bytes maxL none).before a0 Z = true) (hy : y.cls ≠ "java/lang/invoke/MethodHandle" ∧ y.cls ≠ "java/lang/invoke/VarHandle") {rm : Room} {as' : Array Value} {K : Option Value → Heap → List Loc → Prop} {W : Nat} (hM : MetFree l y (head1 [Jvm.Cond.code y bytes maxL none] rm) (fun a U => a = as' ∧ Z.Warmed39 U.vm ∧ U.heap = h) (fun _ _ _ _ _ => True) (fun _ U o U' => ∃ v L, o = .returned v ∧ K v U'.heap L ∧ FrameEnd U o U' L rm.cells rm.slots)) (hf : rm.frames + 1 ≤ R.frames) (hl : W + (maxL + 11) + rm.locals ≤ R.locals) (hc : cells + rm.cells ≤ R.cells) (hs : slots + rm.slots ≤ R.slots) (eT : T.heap = h) (hsize : Ls.size = c.maxLocals) {argsL rest : List Value} (has : (Value.ref a :: argsL).toArray = as') (hlen : ∀ sig, parseMethodDescriptor y.desc = some sig → argsL.length = sig.parameters.length) (hst : st = argsL.reverse ++ .ref a :: rest) (hW : (rest.map fun v => v.category).sum ≤ W) (hp : pc + 3 = pc') (hd : decode c.code pc = .ok (.invokespecial index, 3))
    (k : ∀ v T' L, Stand p l e R s m args below meth c T' (locs ++ L) (cells + rm.cells) (slots + rm.slots) → K v T'.heap L → own_Goes p e below T' (mkF m pc' Ls (v.toList ++ rest)) Q) : own_Goes p e below T (mkF m pc Ls st) Q := by
  subst hp
  obtain ⟨v, _, ⟨T', L', k', n'⟩, -, X', ⟨Lc, hQ, l1, y1, z1⟩, stp⟩ := X.specialBack hx (y := y) hy1 hown (mvT hZ w1) (mvT hZ w2) (mvT hZ w4) hy (backOf (W := W) hM hZ w4 w3 hf hl) (g := mkF m pc Ls st) rfl hsize (Steps.refl _) (a := a) (argsL := argsL) (rest := rest) hlen hst (by show 2 * 0 + _ ≤ _; omega) hd (fun _ _ => ⟨has, eT, hc, hs⟩)
  dsimp only [Pt.U, Pt.locs, Pt.cells, Pt.slots] at X' l1 y1 z1 stp hQ
  subst l1 y1 z1
  exact own_step (fun _ q => stp.trans q) (k v T' Lc X' hQ)
theorem own_callV (X : Stand p l e R s m args below meth c T locs cells slots) (hx : p.tables.exec = Jvm.exec) (hZ : Z.Warmed39 s.vm) {own C : String} {index : Nat} {y : MethodName} {bytes : ByteArray} {maxL : Nat} {rt : Option FieldType} {a : Addr} (hown : s.vm.findClass own = some m.cls) (w1 : (Jvm.Cond.methodLink own index y).before a0 Z = true) (w2 : (Jvm.Cond.declares y).before a0 Z = true) (w5 : (Jvm.Cond.selects C y y).before a0 Z = true) (w6 : (Jvm.Cond.instanceMethod y).before a0 Z = true) (w3 : (Jvm.Cond.initialized y.cls).before a0 Z = true) (w4 : (Jvm.Cond.code y bytes maxL rt).before a0 Z = true) (E : Exa Z h a C) (hy : y.cls ≠ "java/lang/invoke/MethodHandle" ∧ y.cls ≠ "java/lang/invoke/VarHandle") {rm : Room} {as' : Array Value} {K : Option Value → Heap → List Loc → Prop} {W : Nat} (hM : MetFree l y (head1 [Jvm.Cond.code y bytes maxL rt] rm) (fun a U => a = as' ∧ Z.Warmed39 U.vm ∧ U.heap = h) (fun _ _ _ _ _ => True) (fun _ U o U' => ∃ v L, o = .returned v ∧ K v U'.heap L ∧ FrameEnd U o U' L rm.cells rm.slots)) (hf : rm.frames + 1 ≤ R.frames) (hl : W + (maxL + 11) + rm.locals ≤ R.locals) (hc : cells + rm.cells ≤ R.cells) (hs : slots + rm.slots ≤ R.slots) (eT : T.heap = h) (hsize : Ls.size = c.maxLocals) {argsL rest : List Value} (has : (Value.ref a :: argsL).toArray = as') (hlen : ∀ sig, parseMethodDescriptor y.desc = some sig → argsL.length = sig.parameters.length) (hst : st = argsL.reverse ++ .ref a :: rest) (hW : (rest.map fun v => v.category).sum ≤ W) (hp : pc + 3 = pc') (hd : decode c.code pc = .ok (.invokevirtual index, 3))
    (k : ∀ v T' L, Stand p l e R s m args below meth c T' (locs ++ L) (cells + rm.cells) (slots + rm.slots) → K v T'.heap L → own_Goes p e below T' (mkF m pc' Ls (v.toList ++ rest)) Q) : own_Goes p e below T (mkF m pc Ls st) Q := by
  subst hp
  obtain ⟨cq, kq, qa, qb, qc⟩ := isOf hZ eT E
  obtain ⟨v, _, ⟨T', L', k', n'⟩, -, X', ⟨Lc, hQ, l1, y1, z1⟩, stp⟩ := X.virtualBack hx (y := y) (z := y) hown (mvT hZ w1) (mvT hZ w2) (notFace_of_selects (args := #[]) (mvT hZ w5)) (mvT hZ w5) (mvT hZ w6) hy (backOf (W := W) hM hZ w4 w3 hf hl) qa qc (g := mkF m pc Ls st) rfl hsize (Steps.refl _) (argsL := argsL) (rest := rest) hlen hst (by show 2 * 0 + _ ≤ _; omega) hd (fun _ _ => ⟨has, eT, hc, hs⟩)
  dsimp only [Pt.U, Pt.locs, Pt.cells, Pt.slots] at X' l1 y1 z1 stp hQ
  subst l1 y1 z1
  exact own_step (fun _ q => stp.trans q) (k v T' Lc X' hQ)
theorem own_callP (X : Stand p l e R s m args below meth c T locs cells slots) (hx : p.tables.exec = Jvm.exec) (hZ : Z.Warmed39 s.vm) {own C : String} {index : Nat} {y z z' : MethodName} {bytes : ByteArray} {maxL : Nat} {rt : Option FieldType} {a : Addr} {D : String} (hown : s.vm.findClass own = some m.cls) (w1 : (Jvm.Cond.methodLink own index y).before a0 Z = true) (w6 : (Jvm.Cond.instanceMethod y).before a0 Z = true) (w7 : (Jvm.Cond.privateMethod y).before a0 Z = true) (w5 : (Jvm.Cond.selects C z z').before a0 Z = true) (hcls : z'.cls = y.cls) (w3 : (Jvm.Cond.initialized y.cls).before a0 Z = true) (w4 : (Jvm.Cond.code y bytes maxL rt).before a0 Z = true) (E : Exa Z h a D) (hy : y.cls ≠ "java/lang/invoke/MethodHandle" ∧ y.cls ≠ "java/lang/invoke/VarHandle") {rm : Room} {as' : Array Value} {K : Option Value → Heap → List Loc → Prop} {W : Nat} (hM : MetFree l y (head1 [Jvm.Cond.code y bytes maxL rt] rm) (fun a U => a = as' ∧ Z.Warmed39 U.vm ∧ U.heap = h) (fun _ _ _ _ _ => True) (fun _ U o U' => ∃ v L, o = .returned v ∧ K v U'.heap L ∧ FrameEnd U o U' L rm.cells rm.slots)) (hf : rm.frames + 1 ≤ R.frames) (hl : W + (maxL + 11) + rm.locals ≤ R.locals) (hc : cells + rm.cells ≤ R.cells) (hs : slots + rm.slots ≤ R.slots) (eT : T.heap = h) (hsize : Ls.size = c.maxLocals) {argsL rest : List Value} (has : (Value.ref a :: argsL).toArray = as') (hlen : ∀ sig, parseMethodDescriptor y.desc = some sig → argsL.length = sig.parameters.length) (hst : st = argsL.reverse ++ .ref a :: rest) (hW : (rest.map fun v => v.category).sum ≤ W) (hp : pc + 3 = pc') (hd : decode c.code pc = .ok (.invokevirtual index, 3))
    (k : ∀ v T' L, Stand p l e R s m args below meth c T' (locs ++ L) (cells + rm.cells) (slots + rm.slots) → K v T'.heap L → own_Goes p e below T' (mkF m pc' Ls (v.toList ++ rest)) Q) : own_Goes p e below T (mkF m pc Ls st) Q := by
  subst hp
  have hs5 : (Jvm.Cond.selects C z z').before args s = true := mvT hZ w5
  obtain ⟨c2, r2, m2, -, -, q3, -, kP, hkP, hkPi⟩ := Cond.selects_spec hs5
  have hc2 : s.vm.findClass y.cls = some m2.cls := hcls ▸ findClass_of_methodNamed q3
  have hpriv := Cond.privateMethod_at (mvP hZ w7 (args := #[]))
  have hinst : (Jvm.Cond.instanceMethod y).before args s = true := mvT hZ w6
  have hsel := selects_self_of_private (args := args) hc2 hkP hkPi hpriv hinst hy
  obtain ⟨cq, qc, qc'⟩ := E.cell
  obtain ⟨v, _, ⟨T', L', k', n'⟩, -, X', ⟨Lc, hQ, l1, y1, z1⟩, stp⟩ := X.privateBack hx (y := y) hown (mvT hZ w1) hinst hsel hpriv (mvT hZ w4) hy (backOf (W := W) hM hZ w4 w3 hf hl) (g := mkF m pc Ls st) rfl hsize (Steps.refl _) (a := a) (cell := cq) (by rw [eT]; exact qc) qc' (argsL := argsL) (rest := rest) hlen hst (by show 2 * 0 + _ ≤ _; omega) hd (fun _ _ => ⟨has, eT, hc, hs⟩)
  dsimp only [Pt.U, Pt.locs, Pt.cells, Pt.slots] at X' l1 y1 z1 stp hQ
  subst l1 y1 z1
  exact own_step (fun _ q => stp.trans q) (k v T' Lc X' hQ)
theorem own_in {j : Int32} {k n : Nat} (hj : ¬ j < 0) (hk : j.toNatClampNeg = k) (hn : k < n) {cl : Cell} (hs : cl.slots.size = n) : ¬ (j < 0 ∨ cl.slots.size ≤ j.toNatClampNeg) := by
  rintro (q | q)
  · exact hj q
  · omega
theorem own_Arr.lt {a : Addr} {ty : FieldType} {n : Nat} {f : Nat → Value} (A : own_Arr Z h a ty n f) : a < h.size := by obtain ⟨c, A, -⟩ := A; exact A.lt
theorem own_Arr.ext {a : Addr} {ty : FieldType} {n : Nat} {f : Nat → Value} (E : Ext h h') (A : own_Arr Z h a ty n f) : own_Arr Z h' a ty n f := by obtain ⟨c, A, r⟩ := A; exact ⟨c, A.ext E, r⟩
theorem own_Arr.other {a b : Addr} {ty : FieldType} {n sl : Nat} {v : Value} {f : Nat → Value} (W : Wr h h' a sl v) (A : own_Arr Z h b ty n f) (q : b ≠ a) : own_Arr Z h' b ty n f := by obtain ⟨c, A, r⟩ := A; exact ⟨c, A.other W q, r⟩
theorem own_Arr.keep {a : Addr} {ty : FieldType} {n : Nat} {ws : List Addr} {f : Nat → Value} (K : Keep h h' ws) (A : own_Arr Z h a ty n f) (q : a ∉ ws) : own_Arr Z h' a ty n f := by obtain ⟨c, A, r⟩ := A; exact ⟨c, ⟨K.2.1 a c A.1 q, A.2⟩, r⟩
theorem own_Arr.congr {a : Addr} {ty : FieldType} {n : Nat} {f g : Nat → Value} (A : own_Arr Z h a ty n f) (q : ∀ j, j < n → f j = g j) : own_Arr Z h a ty n g := by
  obtain ⟨c, A, r1, r2, r3⟩ := A
  exact ⟨c, A, r1, r2, fun j hj => by rw [r3 j hj, q j hj]⟩
theorem own_sizWr {a : Addr} {sl n0 : Nat} {v : Value} (W : Wr h h' a sl v) (q : n0 ≤ h.size) : n0 ≤ h'.size := by rw [W.size]; exact q
theorem own_Arr.set {a : Addr} {ty : FieldType} {n k : Nat} {f : Nat → Value} {v : Value} {cl : Cell} (A : Arr Z h a cl ty) (r1 : cl.slots.size = n) (r2 : n < 2 ^ 31) (r3 : ∀ j, j < n → cl.slots[j]? = some (f j)) (hk : k < n) (W : Wr h h' a k v) : own_Arr Z h' a ty n (own_upd f k v) := by
  refine ⟨cl.setSlot k v, Arr.same W A, by rw [sz_set]; exact r1, r2, fun j hj => ?_⟩
  show (cl.slots.setIfInBounds k v)[j]? = _
  rw [Array.getElem?_setIfInBounds]
  by_cases q : k = j
  · subst q; simp [own_upd, r1, hk]
  · have q' : ¬ j = k := fun z => q z.symm
    simp [own_upd, q, q', r3 j hj]
theorem own_newarr (X : Stand p l e R s m args below meth c T locs cells slots) (hx : p.tables.exec = Jvm.exec) (hZ : Z.Warmed39 s.vm) {aty : ArrayType} (w : (Jvm.Cond.arrayClass (newarray.typeOf aty)).before a0 Z = true) (eT : T.heap = h) {n : Int32} (hp : pc + 2 = pc') (hd : decode c.code pc = .ok (.newarray aty, 2)) (hn : ¬ n < 0) {N : Nat} (hN : n.toNatClampNeg = N) {cap : Nat} (hcap : n.toNatClampNeg ≤ cap) (hb : cap * 8 ≤ 536870912) (hc : cells + 1 ≤ R.cells) (hl : slots + cap ≤ R.slots)
    (k : ∀ T' h', Stand p l e R s m args below meth c T' locs (cells + 1) (slots + cap) → T'.heap = h' → Ext h h' → own_Arr Z h' h.size (newarray.typeOf aty) N (fun _ => defaultValue (newarray.typeOf aty)) → own_Goes p e below T' (mkF m pc' Ls (.ref h.size :: st)) Q) : own_Goes p e below T (mkF m pc Ls (.int n :: st)) Q := by
  subst hp
  obtain ⟨T', h', cA, X', e', E', A', stp⟩ := newP X hx hZ w eT (g := mkF m pc Ls (.int n :: st)) rfl hd rfl hn hcap hb hc hl
  refine own_step stp (k T' h' X' e' E' ⟨_, A', by rw [sz_new, hN], by rw [← hN]; exact (back32 hn).2, fun j hj => ?_⟩)
  simp [newA, hN, hj]
theorem own_stI (X : Stand p l e R s m args below meth c T locs cells slots) (hx : p.tables.exec = Jvm.exec) (hZ : Z.Warmed39 s.vm) (eT : T.heap = h) {a : Addr} {n k : Nat} {f : Nat → Value} (A : own_Arr Z h a .int n f) {j : Int32} {x : Int32} (hj : ¬ j < 0) (hk : j.toNatClampNeg = k) (hn : k < n)  (hp : pc + 1 = pc') (hd : decode c.code pc = .ok (.iastore, 1))
    (q : ∀ T' h', Stand p l e R s m args below meth c T' (locs ++ [⟨a, k⟩]) cells slots → T'.heap = h' → Wr h h' a k (.int x) → own_Arr Z h' a .int n (own_upd f k (.int x)) → own_Goes p e below T' (mkF m pc' Ls st) Q) : own_Goes p e below T (mkF m pc Ls (.int x :: .int j :: .ref a :: st)) Q := by
  subst hp
  obtain ⟨cl, A, r1, r2, r3⟩ := A
  obtain ⟨T', h', X', e', W', stp⟩ := stI X hx hZ eT A (own_in hj hk hn r1) (g := mkF m pc Ls (.int x :: .int j :: .ref a :: st)) rfl rfl hd
  subst hk
  exact own_step stp (q T' h' X' e' W' (own_Arr.set A r1 r2 r3 hn W'))
theorem own_stJ (X : Stand p l e R s m args below meth c T locs cells slots) (hx : p.tables.exec = Jvm.exec) (hZ : Z.Warmed39 s.vm) (eT : T.heap = h) {a : Addr} {n k : Nat} {f : Nat → Value} (A : own_Arr Z h a .long n f) {j : Int32} {x : Int64} (hj : ¬ j < 0) (hk : j.toNatClampNeg = k) (hn : k < n)  (hp : pc + 1 = pc') (hd : decode c.code pc = .ok (.lastore, 1))
    (q : ∀ T' h', Stand p l e R s m args below meth c T' (locs ++ [⟨a, k⟩]) cells slots → T'.heap = h' → Wr h h' a k (.long x) → own_Arr Z h' a .long n (own_upd f k (.long x)) → own_Goes p e below T' (mkF m pc' Ls st) Q) : own_Goes p e below T (mkF m pc Ls (.long x :: .int j :: .ref a :: st)) Q := by
  subst hp
  obtain ⟨cl, A, r1, r2, r3⟩ := A
  obtain ⟨T', h', X', e', W', stp⟩ := stJ X hx hZ eT A (own_in hj hk hn r1) (g := mkF m pc Ls (.long x :: .int j :: .ref a :: st)) rfl rfl hd
  subst hk
  exact own_step stp (q T' h' X' e' W' (own_Arr.set A r1 r2 r3 hn W'))
theorem own_stB (X : Stand p l e R s m args below meth c T locs cells slots) (hx : p.tables.exec = Jvm.exec) (hZ : Z.Warmed39 s.vm) (eT : T.heap = h) {a : Addr} {n k : Nat} {f : Nat → Value} (A : own_Arr Z h a .byte n f) {j : Int32} {x y : Int32} (hj : ¬ j < 0) (hk : j.toNatClampNeg = k) (hn : k < n) (hv : nar .byte x = y) (hp : pc + 1 = pc') (hd : decode c.code pc = .ok (.bastore, 1))
    (q : ∀ T' h', Stand p l e R s m args below meth c T' (locs ++ [⟨a, k⟩]) cells slots → T'.heap = h' → Wr h h' a k (.int y) → own_Arr Z h' a .byte n (own_upd f k (.int y)) → own_Goes p e below T' (mkF m pc' Ls st) Q) : own_Goes p e below T (mkF m pc Ls (.int x :: .int j :: .ref a :: st)) Q := by
  subst hp; subst hv
  obtain ⟨cl, A, r1, r2, r3⟩ := A
  obtain ⟨T', h', X', e', W', stp⟩ := stB X hx hZ eT A (own_in hj hk hn r1) (g := mkF m pc Ls (.int x :: .int j :: .ref a :: st)) rfl rfl hd
  subst hk
  exact own_step stp (q T' h' X' e' W' (own_Arr.set A r1 r2 r3 hn W'))
theorem own_stC (X : Stand p l e R s m args below meth c T locs cells slots) (hx : p.tables.exec = Jvm.exec) (hZ : Z.Warmed39 s.vm) (eT : T.heap = h) {a : Addr} {n k : Nat} {f : Nat → Value} (A : own_Arr Z h a .char n f) {j : Int32} {x y : Int32} (hj : ¬ j < 0) (hk : j.toNatClampNeg = k) (hn : k < n) (hv : nar .char x = y) (hp : pc + 1 = pc') (hd : decode c.code pc = .ok (.castore, 1))
    (q : ∀ T' h', Stand p l e R s m args below meth c T' (locs ++ [⟨a, k⟩]) cells slots → T'.heap = h' → Wr h h' a k (.int y) → own_Arr Z h' a .char n (own_upd f k (.int y)) → own_Goes p e below T' (mkF m pc' Ls st) Q) : own_Goes p e below T (mkF m pc Ls (.int x :: .int j :: .ref a :: st)) Q := by
  subst hp; subst hv
  obtain ⟨cl, A, r1, r2, r3⟩ := A
  obtain ⟨T', h', X', e', W', stp⟩ := stC X hx hZ eT A (own_in hj hk hn r1) (g := mkF m pc Ls (.int x :: .int j :: .ref a :: st)) rfl rfl hd
  subst hk
  exact own_step stp (q T' h' X' e' W' (own_Arr.set A r1 r2 r3 hn W'))
theorem own_ldI (X : Stand p l e R s m args below meth c T locs cells slots) (hx : p.tables.exec = Jvm.exec) (hZ : Z.Warmed39 s.vm) (eT : T.heap = h) {a : Addr} {n k : Nat} {f : Nat → Value} (A : own_Arr Z h a .int n f) {j : Int32} (hj : ¬ j < 0) (hk : j.toNatClampNeg = k) (hn : k < n) {v : Value} (hv : f k = v) (hp : pc + 1 = pc') (hd : decode c.code pc = .ok (.iaload, 1)) (q : own_Goes p e below T (mkF m pc' Ls (v :: st)) Q) : own_Goes p e below T (mkF m pc Ls (.int j :: .ref a :: st)) Q := by
  subst hp
  obtain ⟨cl, A, r1, r2, r3⟩ := A
  exact own_step (fun t z => X.iaload hx (j := j) (v := v) (by rw [eT]; exact A.1) (State.isArrayOf_alike hZ.alike A.2.1) A.2.2 (own_in hj hk hn r1) (by rw [hk, r3 k hn, hv]) (g := mkF m pc Ls (.int j :: .ref a :: st)) rfl rfl hd t z) q
theorem own_ldJ (X : Stand p l e R s m args below meth c T locs cells slots) (hx : p.tables.exec = Jvm.exec) (hZ : Z.Warmed39 s.vm) (eT : T.heap = h) {a : Addr} {n k : Nat} {f : Nat → Value} (A : own_Arr Z h a .long n f) {j : Int32} (hj : ¬ j < 0) (hk : j.toNatClampNeg = k) (hn : k < n) {v : Value} (hv : f k = v) (hp : pc + 1 = pc') (hd : decode c.code pc = .ok (.laload, 1)) (q : own_Goes p e below T (mkF m pc' Ls (v :: st)) Q) : own_Goes p e below T (mkF m pc Ls (.int j :: .ref a :: st)) Q := by
  subst hp
  obtain ⟨cl, A, r1, r2, r3⟩ := A
  exact own_step (fun t z => X.laload hx (j := j) (v := v) (by rw [eT]; exact A.1) (State.isArrayOf_alike hZ.alike A.2.1) A.2.2 (own_in hj hk hn r1) (by rw [hk, r3 k hn, hv]) (g := mkF m pc Ls (.int j :: .ref a :: st)) rfl rfl hd t z) q
theorem own_ldB (X : Stand p l e R s m args below meth c T locs cells slots) (hx : p.tables.exec = Jvm.exec) (hZ : Z.Warmed39 s.vm) (eT : T.heap = h) {a : Addr} {n k : Nat} {f : Nat → Value} (A : own_Arr Z h a .byte n f) {j : Int32} (hj : ¬ j < 0) (hk : j.toNatClampNeg = k) (hn : k < n) {v : Value} (hv : f k = v) (hp : pc + 1 = pc') (hd : decode c.code pc = .ok (.baload, 1)) (q : own_Goes p e below T (mkF m pc' Ls (v :: st)) Q) : own_Goes p e below T (mkF m pc Ls (.int j :: .ref a :: st)) Q := by
  subst hp
  obtain ⟨cl, A, r1, r2, r3⟩ := A
  exact own_step (fun t z => X.baloadBytes hx (j := j) (v := v) (by rw [eT]; exact A.1) (State.isArrayOf_alike hZ.alike A.2.1) A.2.2 (own_in hj hk hn r1) (by rw [hk, r3 k hn, hv]) (g := mkF m pc Ls (.int j :: .ref a :: st)) rfl rfl hd t z) q
theorem own_ldC (X : Stand p l e R s m args below meth c T locs cells slots) (hx : p.tables.exec = Jvm.exec) (hZ : Z.Warmed39 s.vm) (eT : T.heap = h) {a : Addr} {n k : Nat} {f : Nat → Value} (A : own_Arr Z h a .char n f) {j : Int32} (hj : ¬ j < 0) (hk : j.toNatClampNeg = k) (hn : k < n) {v : Value} (hv : f k = v) (hp : pc + 1 = pc') (hd : decode c.code pc = .ok (.caload, 1)) (q : own_Goes p e below T (mkF m pc' Ls (v :: st)) Q) : own_Goes p e below T (mkF m pc Ls (.int j :: .ref a :: st)) Q := by
  subst hp
  obtain ⟨cl, A, r1, r2, r3⟩ := A
  exact own_step (fun t z => X.caload hx (j := j) (v := v) (by rw [eT]; exact A.1) (State.isArrayOf_alike hZ.alike A.2.1) A.2.2 (own_in hj hk hn r1) (by rw [hk, r3 k hn, hv]) (g := mkF m pc Ls (.int j :: .ref a :: st)) rfl rfl hd t z) q
theorem own_alen (X : Stand p l e R s m args below meth c T locs cells slots) (hx : p.tables.exec = Jvm.exec) (hZ : Z.Warmed39 s.vm) (eT : T.heap = h) {a : Addr} {ty : FieldType} {n : Nat} {f : Nat → Value} (A : own_Arr Z h a ty n f) {v : Int32} (hv : n.toInt32 = v) (hp : pc + 1 = pc') (hd : decode c.code pc = .ok (.arraylength, 1)) (q : own_Goes p e below T (mkF m pc' Ls (.int v :: st)) Q) : own_Goes p e below T (mkF m pc Ls (.ref a :: st)) Q := by
  subst hp; subst hv
  obtain ⟨cl, A, r1, r2, r3⟩ := A
  subst r1
  exact own_step (fun t z => X.arraylength hx (cell := cl) (by rw [eT]; exact A.1) (State.isArrayOf_alike hZ.alike A.2.1) (g := mkF m pc Ls (.ref a :: st)) rfl rfl hd t z) q
theorem own_instY (X : Stand p l e R s m args below meth c T locs cells slots) (hx : p.tables.exec = Jvm.exec) (hZ : Z.Warmed39 s.vm) {own K : String} {index : Nat} (hown : s.vm.findClass own = some m.cls) (w : (Jvm.Cond.classLink own index K).before a0 Z = true) (eT : T.heap = h) {a : Addr} (F : Ins Z h a K true) (hp : pc + 3 = pc') (hd : decode c.code pc = .ok (.instanceof index, 3))
    (k : ∀ T', Stand p l e R s m args below meth c T' locs cells slots → T'.heap = h → own_Goes p e below T' (mkF m pc' Ls (.int 1 :: st)) Q) : own_Goes p e below T (mkF m pc Ls (.ref a :: st)) Q := by
  subst hp
  obtain ⟨T', X', e', stp⟩ := instY X hx hZ hown w eT F (g := mkF m pc Ls (.ref a :: st)) rfl rfl hd
  exact own_step stp (k T' X' e')
theorem own_castY (X : Stand p l e R s m args below meth c T locs cells slots) (hx : p.tables.exec = Jvm.exec) (hZ : Z.Warmed39 s.vm) {own K : String} {index : Nat} (hown : s.vm.findClass own = some m.cls) (w : (Jvm.Cond.classLink own index K).before a0 Z = true) (eT : T.heap = h) {a : Addr} (F : Ins Z h a K true) (hp : pc + 3 = pc') (hd : decode c.code pc = .ok (.checkcast index, 3))
    (k : ∀ T', Stand p l e R s m args below meth c T' locs cells slots → T'.heap = h → own_Goes p e below T' (mkF m pc' Ls (.ref a :: st)) Q) : own_Goes p e below T (mkF m pc Ls (.ref a :: st)) Q := by
  subst hp
  obtain ⟨T', X', e', stp⟩ := castY X hx hZ hown w eT F (g := mkF m pc Ls (.ref a :: st)) rfl rfl hd
  exact own_step stp (k T' X' e')
theorem own_instNo (X : Stand p l e R s m args below meth c T locs cells slots) (hx : p.tables.exec = Jvm.exec) (hZ : Z.Warmed39 s.vm) {own K C : String} {index : Nat} (hown : s.vm.findClass own = some m.cls) (w : (Jvm.Cond.classLink own index K).before a0 Z = true) (eT : T.heap = h) {a : Addr} (E : Exa Z h a C) (F : ∃ c t, Z.vm.findClass C = some c ∧ Z.vm.findClass K = some t ∧ Z.vm.assignable c t = false) (hp : pc + 3 = pc') (hd : decode c.code pc = .ok (.instanceof index, 3))
    (k : ∀ T', Stand p l e R s m args below meth c T' locs cells slots → T'.heap = h → own_Goes p e below T' (mkF m pc' Ls (.int 0 :: st)) Q) : own_Goes p e below T (mkF m pc Ls (.ref a :: st)) Q := by
  subst hp
  obtain ⟨T', X', e', stp⟩ := instNo X hx hZ hown w eT E F (g := mkF m pc Ls (.ref a :: st)) rfl rfl hd
  exact own_step stp (k T' X' e')
theorem own_instNull (X : Stand p l e R s m args below meth c T locs cells slots) (hx : p.tables.exec = Jvm.exec) {index : Nat} (hp : pc + 3 = pc') (hd : decode c.code pc = .ok (.instanceof index, 3)) (k : own_Goes p e below T (mkF m pc' Ls (.int 0 :: st)) Q) : own_Goes p e below T (mkF m pc Ls (.null :: st)) Q := by
  subst hp; exact own_step (fun t q => X.instanceofNull hx (g := mkF m pc Ls (.null :: st)) rfl rfl hd t q) k
theorem own_fitR {v : Value} {C : String} (hv : v.isRef = true) : fits (.object C) v = true := by cases v <;> simp_all [fits, Value.isRef]
end Own
/-! 2. THE BODIES -/
def own_c (n : Int32) : Int32 := n.toUInt32.toUInt16.toUInt32.toInt32
def own_sep (x : Int32) : Int32 := if (x &&& (127 : Int32)) = (34 : Int32) then own_c ((x &&& (127 : Int32)) ^^^ (64 : Int32)) else if (x &&& (127 : Int32)) = (10 : Int32) then own_c ((x &&& (127 : Int32)) ^^^ (64 : Int32)) else if (x &&& (127 : Int32)) = (13 : Int32) then own_c ((x &&& (127 : Int32)) ^^^ (64 : Int32)) else own_c (x &&& (127 : Int32))
theorem own_nc (x : Int32) : nar .char (own_c x) = own_c x := by
  unfold own_c
  generalize x.toUInt32 = u
  show (u.toUInt16.toUInt32.toInt32).toUInt32.toUInt16.toUInt32.toInt32 = _
  rw [UInt32.toUInt32_toInt32, UInt16.toUInt16_toUInt32]
def own_okc (s : Int32) : Prop := s < (128 : Int32) ∧ ¬ s = (34 : Int32) ∧ ¬ s = (10 : Int32) ∧ ¬ s = (13 : Int32) ∧ narrow .char (.int s) = .int s ∧ fits .char (.int s) = true
theorem own_tn {k : Nat} (h : k < 2147483648) : (Int32.ofNat k).toInt = k := Int32.toInt_ofNat_of_lt (by omega)
theorem own_127 (x : Int32) : ∃ k : Fin 128, (x &&& (127 : Int32)) = Int32.ofNat k.val := by
  have e1 : (x &&& 127).toInt = x.toInt % 2 ^ 7 := Jvm.Kit.i32_mask x 127 (k := 7) (by decide) (by decide)
  refine ⟨⟨(x &&& 127).toInt.toNat, by omega⟩, Int32.toInt_inj.mp ?_⟩
  show _ = (Int32.ofNat (x &&& 127).toInt.toNat).toInt
  rw [own_tn (by omega)]; omega
def own_sepk (n : Int32) : Int32 := if n = (34 : Int32) then own_c (n ^^^ (64 : Int32)) else if n = (10 : Int32) then own_c (n ^^^ (64 : Int32)) else if n = (13 : Int32) then own_c (n ^^^ (64 : Int32)) else own_c n
theorem own_sepall : ∀ k : Fin 128, (own_sepk (Int32.ofNat k.val) < (128 : Int32) ∧ ¬ own_sepk (Int32.ofNat k.val) = (34 : Int32) ∧ ¬ own_sepk (Int32.ofNat k.val) = (10 : Int32) ∧ ¬ own_sepk (Int32.ofNat k.val) = (13 : Int32)) ∧ (0 ≤ (own_sepk (Int32.ofNat k.val)).toInt) := by decide +kernel
theorem own_sepex (x : Int32) : ∃ z, own_sep x = own_c z := by
  unfold own_sep; split
  · exact ⟨_, rfl⟩
  · split
    · exact ⟨_, rfl⟩
    · split <;> exact ⟨_, rfl⟩
theorem own_sepP (x : Int32) : own_okc (own_sep x) := by
  obtain ⟨k, hk⟩ := own_127 x
  have e : own_sep x = own_sepk (Int32.ofNat k.val) := by unfold own_sep own_sepk; rw [hk]
  obtain ⟨⟨h1, h2, h3, h4⟩, h5⟩ := own_sepall k
  have nr : narrow .char (.int (own_sep x)) = .int (own_sep x) := by
    have : ∃ z, own_sep x = own_c z := own_sepex x
    obtain ⟨z, hz⟩ := this
    rw [hz]; exact XT.narrow_c z
  have ft : fits .char (.int (own_sep x)) = true := by
    have : ∃ z, own_sep x = own_c z := own_sepex x
    obtain ⟨z, hz⟩ := this
    rw [hz, ← own_nc z]; exact fits_nar_char _
  exact ⟨e ▸ h1, e ▸ h2, e ▸ h3, e ▸ h4, nr, ft⟩
def own_hdr (k : Int32) (aD aP aA : Addr) : Addr := if ((k &&& (2147483647 : Int32)) % (3 : Int32)) = 0 then aD else if ((k &&& (2147483647 : Int32)) % (3 : Int32)) = (1 : Int32) then aP else aA
def own_eq (s t : Int32) (g h : Addr) : Int32 := if s = t then (if (Value.ref g) = (Value.ref h) then 1 else 0) else 0
def own_sepb (s : Int32) : Int32 := if s < (128 : Int32) then (if s = (34 : Int32) then 0 else if s = (10 : Int32) then 0 else if s = (13 : Int32) then 0 else 1) else 0
theorem ef_rm_sep (m : MethodId) (p1 : Int32) : entryFrame m #[(.int p1)] 2 = mkF m 0 #[.val (.int p1), .unset] [] := by first | (simp [entryFrame, mkF, argsToLocals, Value.category]; done) | rfl
def K_rm_sep  (Z : State) (h0 : Heap) (n0 : Nat) (p1 : Int32) (v : Option Value) (h : Heap) (L : List Loc) : Prop := v = some (.int (own_sep p1)) ∧ Fr n0 L ∧ h = h0
theorem d_method_2_code_0 : decode method_2_code 0 = .ok (.iload_n 0, 1) := by decide +kernel
theorem d_method_2_code_1 : decode method_2_code 1 = .ok (.bipush 127, 2) := by decide +kernel
theorem d_method_2_code_3 : decode method_2_code 3 = .ok (.iand, 1) := by decide +kernel
theorem d_method_2_code_4 : decode method_2_code 4 = .ok (.istore_n 1, 1) := by decide +kernel
theorem d_method_2_code_5 : decode method_2_code 5 = .ok (.iload_n 1, 1) := by decide +kernel
theorem d_method_2_code_6 : decode method_2_code 6 = .ok (.bipush 34, 2) := by decide +kernel
theorem d_method_2_code_8 : decode method_2_code 8 = .ok (.if_icmp .eq 15, 3) := by decide +kernel
theorem d_method_2_code_23 : decode method_2_code 23 = .ok (.iload_n 1, 1) := by decide +kernel
theorem d_method_2_code_24 : decode method_2_code 24 = .ok (.bipush 64, 2) := by decide +kernel
theorem d_method_2_code_26 : decode method_2_code 26 = .ok (.ixor, 1) := by decide +kernel
theorem d_method_2_code_27 : decode method_2_code 27 = .ok (.istore_n 1, 1) := by decide +kernel
theorem d_method_2_code_28 : decode method_2_code 28 = .ok (.iload_n 1, 1) := by decide +kernel
theorem d_method_2_code_29 : decode method_2_code 29 = .ok (.i2c, 1) := by decide +kernel
theorem d_method_2_code_30 : decode method_2_code 30 = .ok (.ireturn, 1) := by decide +kernel
theorem d_method_2_code_11 : decode method_2_code 11 = .ok (.iload_n 1, 1) := by decide +kernel
theorem d_method_2_code_12 : decode method_2_code 12 = .ok (.bipush 10, 2) := by decide +kernel
theorem d_method_2_code_14 : decode method_2_code 14 = .ok (.if_icmp .eq 9, 3) := by decide +kernel
theorem d_method_2_code_17 : decode method_2_code 17 = .ok (.iload_n 1, 1) := by decide +kernel
theorem d_method_2_code_18 : decode method_2_code 18 = .ok (.bipush 13, 2) := by decide +kernel
theorem d_method_2_code_20 : decode method_2_code 20 = .ok (.if_icmp .ne 8, 3) := by decide +kernel
theorem pn_com_example_ferrule_ferrule_io_CsvLayoutEqualsPinLaw : plainName "com/example/ferrule/ferrule/io/CsvLayoutEqualsPinLaw" = true := by first | (simp [plainName, overriddenIn]; done) | decide +kernel
set_option maxRecDepth 65536 in
set_option maxHeartbeats 40000000 in
theorem rm_sep (l : Launch) (Z : State) (a0 : Array Value) (hw : ∀ d ∈ tables_1, d.before a0 Z = true) (ws : List Jvm.Cond)  (p1 : Int32) (h0 : Heap) (n0 : Nat) (Z0 : n0 ≤ h0.size) :
    MetFree l (⟨"com/example/ferrule/ferrule/io/CsvLayoutEqualsPinLaw", "sep", "(I)C"⟩ : MethodName) (head1 (Jvm.Cond.code (⟨"com/example/ferrule/ferrule/io/CsvLayoutEqualsPinLaw", "sep", "(I)C"⟩ : MethodName) method_2_code 2 (some .char) :: ws) ({ frames := 0, cells := 0, slots := 0, locals := 0 } : Room)) (fun a U => a = #[(.int p1)] ∧ Z.Warmed39 U.vm ∧ U.heap = h0) (fun _ _ _ _ _ => True) (fun _ U o U' => ∃ v L, o = .returned v ∧ (K_rm_sep  Z h0 n0 p1) v U'.heap L ∧ FrameEnd U o U' L ({ frames := 0, cells := 0, slots := 0, locals := 0 } : Room).cells ({ frames := 0, cells := 0, slots := 0, locals := 0 } : Room).slots) := by
  refine own_body (plainFor_of_name pn_com_example_ferrule_ferrule_io_CsvLayoutEqualsPinLaw) ?_
  intro p e s m below meth c s₁ hx hby hml hown hnm hret hlk hZ X0 e0
  have hown : s.vm.findClass "com/example/ferrule/ferrule/io/CsvLayoutEqualsPinLaw" = some m.cls := hown
  have N0 := Fr.nil n0
  rw [ef_rm_sep m p1]
  refine own_iloadN X0 hx (pc' := 1) rfl (hb hby d_method_2_code_0) rfl ?_
  refine own_bipush X0 hx (v := (127 : Int32)) (pc' := 3) rfl (hb hby d_method_2_code_1) rfl ?_
  refine own_iand X0 hx (v := (p1 &&& (127 : Int32))) (pc' := 4) rfl (hb hby d_method_2_code_3) rfl ?_
  refine own_istoreN X0 hx (Ls' := #[.val (.int p1), .val (.int (p1 &&& (127 : Int32)))]) (pc' := 5) rfl (hb hby d_method_2_code_4) rfl ?_
  refine own_iloadN X0 hx (pc' := 6) rfl (hb hby d_method_2_code_5) rfl ?_
  refine own_bipush X0 hx (v := (34 : Int32)) (pc' := 8) rfl (hb hby d_method_2_code_6) rfl ?_
  by_cases c8_1 : (p1 &&& (127 : Int32)) = (34 : Int32)
  · refine own_icmpT X0 hx (pc' := 23) (hb hby d_method_2_code_8) (XT.ii_eq_t c8_1) (by decide) (by decide) ?_
    refine own_iloadN X0 hx (pc' := 24) rfl (hb hby d_method_2_code_23) rfl ?_
    refine own_bipush X0 hx (v := (64 : Int32)) (pc' := 26) rfl (hb hby d_method_2_code_24) rfl ?_
    refine own_ixor X0 hx (v := ((p1 &&& (127 : Int32)) ^^^ (64 : Int32))) (pc' := 27) rfl (hb hby d_method_2_code_26) rfl ?_
    refine own_istoreN X0 hx (Ls' := #[.val (.int p1), .val (.int ((p1 &&& (127 : Int32)) ^^^ (64 : Int32)))]) (pc' := 28) rfl (hb hby d_method_2_code_27) rfl ?_
    refine own_iloadN X0 hx (pc' := 29) rfl (hb hby d_method_2_code_28) rfl ?_
    refine own_i2c X0 hx (v := ((((p1 &&& (127 : Int32)) ^^^ (64 : Int32))).toUInt32.toUInt16.toUInt32.toInt32)) (pc' := 30) rfl (hb hby d_method_2_code_29) rfl ?_
    refine own_zret X0 hx hlk hret (by simp) (hb hby d_method_2_code_30) (by decide) (by decide) ?_
    rw [e0]
    exact ⟨by rw [show own_sep p1 = own_c (((p1 &&& (127 : Int32)) ^^^ (64 : Int32))) from by simp only [own_sep, if_pos c8_1]]; exact congrArg (fun z => some (Value.int z)) (own_nc _), N0, rfl⟩
  · refine own_icmpF X0 hx (pc' := 11) rfl (hb hby d_method_2_code_8) (XT.ii_eq_f c8_1) ?_
    refine own_iloadN X0 hx (pc' := 12) rfl (hb hby d_method_2_code_11) rfl ?_
    refine own_bipush X0 hx (v := (10 : Int32)) (pc' := 14) rfl (hb hby d_method_2_code_12) rfl ?_
    by_cases c14_2 : (p1 &&& (127 : Int32)) = (10 : Int32)
    · refine own_icmpT X0 hx (pc' := 23) (hb hby d_method_2_code_14) (XT.ii_eq_t c14_2) (by decide) (by decide) ?_
      refine own_iloadN X0 hx (pc' := 24) rfl (hb hby d_method_2_code_23) rfl ?_
      refine own_bipush X0 hx (v := (64 : Int32)) (pc' := 26) rfl (hb hby d_method_2_code_24) rfl ?_
      refine own_ixor X0 hx (v := ((p1 &&& (127 : Int32)) ^^^ (64 : Int32))) (pc' := 27) rfl (hb hby d_method_2_code_26) rfl ?_
      refine own_istoreN X0 hx (Ls' := #[.val (.int p1), .val (.int ((p1 &&& (127 : Int32)) ^^^ (64 : Int32)))]) (pc' := 28) rfl (hb hby d_method_2_code_27) rfl ?_
      refine own_iloadN X0 hx (pc' := 29) rfl (hb hby d_method_2_code_28) rfl ?_
      refine own_i2c X0 hx (v := ((((p1 &&& (127 : Int32)) ^^^ (64 : Int32))).toUInt32.toUInt16.toUInt32.toInt32)) (pc' := 30) rfl (hb hby d_method_2_code_29) rfl ?_
      refine own_zret X0 hx hlk hret (by simp) (hb hby d_method_2_code_30) (by decide) (by decide) ?_
      rw [e0]
      exact ⟨by rw [show own_sep p1 = own_c (((p1 &&& (127 : Int32)) ^^^ (64 : Int32))) from by simp only [own_sep, if_neg c8_1, if_pos c14_2]]; exact congrArg (fun z => some (Value.int z)) (own_nc _), N0, rfl⟩
    · refine own_icmpF X0 hx (pc' := 17) rfl (hb hby d_method_2_code_14) (XT.ii_eq_f c14_2) ?_
      refine own_iloadN X0 hx (pc' := 18) rfl (hb hby d_method_2_code_17) rfl ?_
      refine own_bipush X0 hx (v := (13 : Int32)) (pc' := 20) rfl (hb hby d_method_2_code_18) rfl ?_
      by_cases c20_3 : (p1 &&& (127 : Int32)) = (13 : Int32)
      · refine own_icmpF X0 hx (pc' := 23) rfl (hb hby d_method_2_code_20) (XT.ii_ne_f c20_3) ?_
        refine own_iloadN X0 hx (pc' := 24) rfl (hb hby d_method_2_code_23) rfl ?_
        refine own_bipush X0 hx (v := (64 : Int32)) (pc' := 26) rfl (hb hby d_method_2_code_24) rfl ?_
        refine own_ixor X0 hx (v := ((p1 &&& (127 : Int32)) ^^^ (64 : Int32))) (pc' := 27) rfl (hb hby d_method_2_code_26) rfl ?_
        refine own_istoreN X0 hx (Ls' := #[.val (.int p1), .val (.int ((p1 &&& (127 : Int32)) ^^^ (64 : Int32)))]) (pc' := 28) rfl (hb hby d_method_2_code_27) rfl ?_
        refine own_iloadN X0 hx (pc' := 29) rfl (hb hby d_method_2_code_28) rfl ?_
        refine own_i2c X0 hx (v := ((((p1 &&& (127 : Int32)) ^^^ (64 : Int32))).toUInt32.toUInt16.toUInt32.toInt32)) (pc' := 30) rfl (hb hby d_method_2_code_29) rfl ?_
        refine own_zret X0 hx hlk hret (by simp) (hb hby d_method_2_code_30) (by decide) (by decide) ?_
        rw [e0]
        exact ⟨by rw [show own_sep p1 = own_c (((p1 &&& (127 : Int32)) ^^^ (64 : Int32))) from by simp only [own_sep, if_neg c8_1, if_neg c14_2, if_pos c20_3]]; exact congrArg (fun z => some (Value.int z)) (own_nc _), N0, rfl⟩
      · refine own_icmpT X0 hx (pc' := 28) (hb hby d_method_2_code_20) (XT.ii_ne_t c20_3) (by decide) (by decide) ?_
        refine own_iloadN X0 hx (pc' := 29) rfl (hb hby d_method_2_code_28) rfl ?_
        refine own_i2c X0 hx (v := (((p1 &&& (127 : Int32))).toUInt32.toUInt16.toUInt32.toInt32)) (pc' := 30) rfl (hb hby d_method_2_code_29) rfl ?_
        refine own_zret X0 hx hlk hret (by simp) (hb hby d_method_2_code_30) (by decide) (by decide) ?_
        rw [e0]
        exact ⟨by rw [show own_sep p1 = own_c ((p1 &&& (127 : Int32))) from by simp only [own_sep, if_neg c8_1, if_neg c14_2, if_neg c20_3]]; exact congrArg (fun z => some (Value.int z)) (own_nc _), N0, rfl⟩
theorem ef_rm_hdr (m : MethodId) (p1 : Int32) : entryFrame m #[(.int p1)] 2 = mkF m 0 #[.val (.int p1), .unset] [] := by first | (simp [entryFrame, mkF, argsToLocals, Value.category]; done) | rfl
def K_rm_hdr (aD : Addr) (aP : Addr) (aA : Addr) (Z : State) (h0 : Heap) (n0 : Nat) (p1 : Int32) (v : Option Value) (h : Heap) (L : List Loc) : Prop := v = some (.ref (own_hdr p1 aD aP aA)) ∧ Fr n0 L ∧ h = h0
theorem d_method_3_code_0 : decode method_3_code 0 = .ok (.iload_n 0, 1) := by decide +kernel
theorem d_method_3_code_1 : decode method_3_code 1 = .ok (.ldc 7, 2) := by decide +kernel
theorem d_method_3_code_3 : decode method_3_code 3 = .ok (.iand, 1) := by decide +kernel
theorem d_method_3_code_4 : decode method_3_code 4 = .ok (.iconst 3, 1) := by decide +kernel
theorem d_method_3_code_5 : decode method_3_code 5 = .ok (.irem, 1) := by decide +kernel
theorem d_method_3_code_6 : decode method_3_code 6 = .ok (.istore_n 1, 1) := by decide +kernel
theorem d_method_3_code_7 : decode method_3_code 7 = .ok (.iload_n 1, 1) := by decide +kernel
theorem d_method_3_code_8 : decode method_3_code 8 = .ok (.ifCond .ne 7, 3) := by decide +kernel
theorem d_method_3_code_11 : decode method_3_code 11 = .ok (.getstatic 8, 3) := by decide +kernel
theorem d_method_3_code_14 : decode method_3_code 14 = .ok (.areturn, 1) := by decide +kernel
theorem d_method_3_code_15 : decode method_3_code 15 = .ok (.iload_n 1, 1) := by decide +kernel
theorem d_method_3_code_16 : decode method_3_code 16 = .ok (.iconst 1, 1) := by decide +kernel
theorem d_method_3_code_17 : decode method_3_code 17 = .ok (.if_icmp .ne 7, 3) := by decide +kernel
theorem d_method_3_code_20 : decode method_3_code 20 = .ok (.getstatic 14, 3) := by decide +kernel
theorem d_method_3_code_23 : decode method_3_code 23 = .ok (.areturn, 1) := by decide +kernel
theorem d_method_3_code_24 : decode method_3_code 24 = .ok (.getstatic 17, 3) := by decide +kernel
theorem d_method_3_code_27 : decode method_3_code 27 = .ok (.areturn, 1) := by decide +kernel
set_option maxRecDepth 65536 in
set_option maxHeartbeats 40000000 in
theorem rm_hdr (l : Launch) (Z : State) (a0 : Array Value) (hw : ∀ d ∈ tables_1, d.before a0 Z = true) (ws : List Jvm.Cond) (aD : Addr) (aP : Addr) (aA : Addr) (p1 : Int32) (h0 : Heap) (n0 : Nat) (Z0 : n0 ≤ h0.size) (I0 : Sta Z h0 "com/example/ferrule/ferrule/io/CsvLayout$Header" "DETECTED" "Lcom/example/ferrule/ferrule/io/CsvLayout$Header;" (.ref aD)) (I1 : Sta Z h0 "com/example/ferrule/ferrule/io/CsvLayout$Header" "PRESENT" "Lcom/example/ferrule/ferrule/io/CsvLayout$Header;" (.ref aP)) (I2 : Sta Z h0 "com/example/ferrule/ferrule/io/CsvLayout$Header" "ABSENT" "Lcom/example/ferrule/ferrule/io/CsvLayout$Header;" (.ref aA)) :
    MetFree l (⟨"com/example/ferrule/ferrule/io/CsvLayoutEqualsPinLaw", "header", "(I)Lcom/example/ferrule/ferrule/io/CsvLayout$Header;"⟩ : MethodName) (head1 (Jvm.Cond.code (⟨"com/example/ferrule/ferrule/io/CsvLayoutEqualsPinLaw", "header", "(I)Lcom/example/ferrule/ferrule/io/CsvLayout$Header;"⟩ : MethodName) method_3_code 2 (some (.object "com/example/ferrule/ferrule/io/CsvLayout$Header")) :: ws) ({ frames := 0, cells := 0, slots := 0, locals := 0 } : Room)) (fun a U => a = #[(.int p1)] ∧ Z.Warmed39 U.vm ∧ U.heap = h0) (fun _ _ _ _ _ => True) (fun _ U o U' => ∃ v L, o = .returned v ∧ (K_rm_hdr aD aP aA Z h0 n0 p1) v U'.heap L ∧ FrameEnd U o U' L ({ frames := 0, cells := 0, slots := 0, locals := 0 } : Room).cells ({ frames := 0, cells := 0, slots := 0, locals := 0 } : Room).slots) := by
  refine own_body (plainFor_of_name pn_com_example_ferrule_ferrule_io_CsvLayoutEqualsPinLaw) ?_
  intro p e s m below meth c s₁ hx hby hml hown hnm hret hlk hZ X0 e0
  have hown : s.vm.findClass "com/example/ferrule/ferrule/io/CsvLayoutEqualsPinLaw" = some m.cls := hown
  have N0 := Fr.nil n0
  rw [ef_rm_hdr m p1]
  refine own_iloadN X0 hx (pc' := 1) rfl (hb hby d_method_3_code_0) rfl ?_
  refine own_ldc X0 hx hZ hown (hw _ (List.mem_of_getElem? (i := 7) rfl)) (pc' := 3) rfl (hb hby d_method_3_code_1) ?_
  refine own_iand X0 hx (v := (p1 &&& (2147483647 : Int32))) (pc' := 4) rfl (hb hby d_method_3_code_3) rfl ?_
  refine own_iconst X0 hx (v := (3 : Int32)) (pc' := 5) rfl (hb hby d_method_3_code_4) rfl ?_
  refine own_irem X0 hx (v := ((p1 &&& (2147483647 : Int32)) % (3 : Int32))) (pc' := 6) rfl (hb hby d_method_3_code_5) (by decide) rfl ?_
  refine own_istoreN X0 hx (Ls' := #[.val (.int p1), .val (.int ((p1 &&& (2147483647 : Int32)) % (3 : Int32)))]) (pc' := 7) rfl (hb hby d_method_3_code_6) rfl ?_
  refine own_iloadN X0 hx (pc' := 8) rfl (hb hby d_method_3_code_7) rfl ?_
  by_cases c8_1 : ((p1 &&& (2147483647 : Int32)) % (3 : Int32)) = 0
  · refine own_ifF X0 hx (pc' := 11) rfl (hb hby d_method_3_code_8) (XT.i0_ne_f c8_1) ?_
    refine own_getS X0 hx hZ hown (hw _ (List.mem_of_getElem? (i := 41) rfl)) Via.refl e0 I0 (pc' := 14) rfl (hb hby d_method_3_code_11) ?_
    intro T2 X2 e2
    refine own_aret X2 hx hlk hret rfl rfl (hb hby d_method_3_code_14) (by decide) (by decide) ?_
    rw [e2]
    exact ⟨by first | (simp only [own_hdr, if_pos c8_1]; done) | (simp only [own_hdr, if_pos c8_1]; rfl), N0, rfl⟩
  · refine own_ifT X0 hx (pc' := 15) (hb hby d_method_3_code_8) (XT.i0_ne_t c8_1) (by decide) (by decide) ?_
    refine own_iloadN X0 hx (pc' := 16) rfl (hb hby d_method_3_code_15) rfl ?_
    refine own_iconst X0 hx (v := (1 : Int32)) (pc' := 17) rfl (hb hby d_method_3_code_16) rfl ?_
    by_cases c17_3 : ((p1 &&& (2147483647 : Int32)) % (3 : Int32)) = (1 : Int32)
    · refine own_icmpF X0 hx (pc' := 20) rfl (hb hby d_method_3_code_17) (XT.ii_ne_f c17_3) ?_
      refine own_getS X0 hx hZ hown (hw _ (List.mem_of_getElem? (i := 11) rfl)) Via.refl e0 I1 (pc' := 23) rfl (hb hby d_method_3_code_20) ?_
      intro T4 X4 e4
      refine own_aret X4 hx hlk hret rfl rfl (hb hby d_method_3_code_23) (by decide) (by decide) ?_
      rw [e4]
      exact ⟨by first | (simp only [own_hdr, if_neg c8_1, if_pos c17_3]; done) | (simp only [own_hdr, if_neg c8_1, if_pos c17_3]; rfl), N0, rfl⟩
    · refine own_icmpT X0 hx (pc' := 24) (hb hby d_method_3_code_17) (XT.ii_ne_t c17_3) (by decide) (by decide) ?_
      refine own_getS X0 hx hZ hown (hw _ (List.mem_of_getElem? (i := 8) rfl)) Via.refl e0 I2 (pc' := 27) rfl (hb hby d_method_3_code_24) ?_
      intro T5 X5 e5
      refine own_aret X5 hx hlk hret rfl rfl (hb hby d_method_3_code_27) (by decide) (by decide) ?_
      rw [e5]
      exact ⟨by first | (simp only [own_hdr, if_neg c8_1, if_neg c17_3]; done) | (simp only [own_hdr, if_neg c8_1, if_neg c17_3]; rfl), N0, rfl⟩
theorem ef_rm_rec (m : MethodId) (a1 : Addr) : entryFrame m #[(.ref a1)] 1 = mkF m 0 #[.val (.ref a1)] [] := by first | (simp [entryFrame, mkF, argsToLocals, Value.category]; done) | rfl
def K_rm_rec  (Z : State) (h0 : Heap) (n0 : Nat) (a1 : Addr) (v : Option Value) (h : Heap) (L : List Loc) : Prop := v = none ∧ Fr n0 L ∧ h = h0
theorem d_jdk_30_method_1_code_0 : decode jdk_30_method_1_code 0 = .ok (.aload_n 0, 1) := by decide +kernel
theorem d_jdk_30_method_1_code_1 : decode jdk_30_method_1_code 1 = .ok (.invokespecial 1, 3) := by decide +kernel
theorem d_jdk_30_method_1_code_4 : decode jdk_30_method_1_code 4 = .ok (.return_, 1) := by decide +kernel
theorem pn_java_lang_Record : plainName "java/lang/Record" = true := by first | (simp [plainName, overriddenIn]; done) | decide +kernel
set_option maxRecDepth 65536 in
set_option maxHeartbeats 40000000 in
theorem rm_rec (l : Launch) (Z : State) (a0 : Array Value) (hw : ∀ d ∈ tables_1, d.before a0 Z = true) (ws : List Jvm.Cond)  (a1 : Addr) (h0 : Heap) (n0 : Nat) (Z0 : n0 ≤ h0.size) :
    MetFree l (⟨"java/lang/Record", "<init>", "()V"⟩ : MethodName) (head1 (Jvm.Cond.code (⟨"java/lang/Record", "<init>", "()V"⟩ : MethodName) jdk_30_method_1_code 1 none :: ws) ({ frames := 1, cells := 0, slots := 0, locals := 12 } : Room)) (fun a U => a = #[(.ref a1)] ∧ Z.Warmed39 U.vm ∧ U.heap = h0) (fun _ _ _ _ _ => True) (fun _ U o U' => ∃ v L, o = .returned v ∧ (K_rm_rec  Z h0 n0 a1) v U'.heap L ∧ FrameEnd U o U' L ({ frames := 1, cells := 0, slots := 0, locals := 12 } : Room).cells ({ frames := 1, cells := 0, slots := 0, locals := 12 } : Room).slots) := by
  refine own_body (plainFor_of_name pn_java_lang_Record) ?_
  intro p e s m below meth c s₁ hx hby hml hown hnm hret hlk hZ X0 e0
  have hown : s.vm.findClass "java/lang/Record" = some m.cls := hown
  have N0 := Fr.nil n0
  rw [ef_rm_rec m a1]
  refine own_aloadN X0 hx (pc' := 1) rfl (hb hby d_jdk_30_method_1_code_0) rfl rfl ?_
  refine own_initO X0 hx hZ hown (hw _ (List.mem_of_getElem? (i := 24) rfl)) (hw _ (List.mem_of_getElem? (i := 25) rfl)) (hw _ (List.mem_of_getElem? (i := 26) rfl)) e0 (by rw [hml]; rfl) (pc' := 4) rfl (hb hby d_jdk_30_method_1_code_1) (by decide) (W := 0) (Nat.le_of_eq rfl) (by decide) ?_
  intro T1 X1 e1
  refine own_ret X1 hx hlk hret (hb hby d_jdk_30_method_1_code_4) (by decide) (by decide) ?_
  rw [e1]
  exact ⟨rfl, N0, rfl⟩
theorem ef_rm_issep (m : MethodId) (p1 : Int32) : entryFrame m #[(.int p1)] 1 = mkF m 0 #[.val (.int p1)] [] := by first | (simp [entryFrame, mkF, argsToLocals, Value.category]; done) | rfl
def K_rm_issep  (Z : State) (h0 : Heap) (n0 : Nat) (p1 : Int32) (v : Option Value) (h : Heap) (L : List Loc) : Prop := v = some (.int (1 : Int32)) ∧ Fr n0 L ∧ h = h0
theorem d_prog_21_method_4_code_0 : decode prog_21_method_4_code 0 = .ok (.iload_n 0, 1) := by decide +kernel
theorem d_prog_21_method_4_code_1 : decode prog_21_method_4_code 1 = .ok (.sipush 128, 3) := by decide +kernel
theorem d_prog_21_method_4_code_4 : decode prog_21_method_4_code 4 = .ok (.if_icmp .ge 25, 3) := by decide +kernel
theorem d_prog_21_method_4_code_7 : decode prog_21_method_4_code 7 = .ok (.iload_n 0, 1) := by decide +kernel
theorem d_prog_21_method_4_code_8 : decode prog_21_method_4_code 8 = .ok (.bipush 34, 2) := by decide +kernel
theorem d_prog_21_method_4_code_10 : decode prog_21_method_4_code 10 = .ok (.if_icmp .eq 19, 3) := by decide +kernel
theorem d_prog_21_method_4_code_13 : decode prog_21_method_4_code 13 = .ok (.iload_n 0, 1) := by decide +kernel
theorem d_prog_21_method_4_code_14 : decode prog_21_method_4_code 14 = .ok (.bipush 10, 2) := by decide +kernel
theorem d_prog_21_method_4_code_16 : decode prog_21_method_4_code 16 = .ok (.if_icmp .eq 13, 3) := by decide +kernel
theorem d_prog_21_method_4_code_19 : decode prog_21_method_4_code 19 = .ok (.iload_n 0, 1) := by decide +kernel
theorem d_prog_21_method_4_code_20 : decode prog_21_method_4_code 20 = .ok (.bipush 13, 2) := by decide +kernel
theorem d_prog_21_method_4_code_22 : decode prog_21_method_4_code 22 = .ok (.if_icmp .eq 7, 3) := by decide +kernel
theorem d_prog_21_method_4_code_25 : decode prog_21_method_4_code 25 = .ok (.iconst 1, 1) := by decide +kernel
theorem d_prog_21_method_4_code_26 : decode prog_21_method_4_code 26 = .ok (.goto 4, 3) := by decide +kernel
theorem d_prog_21_method_4_code_30 : decode prog_21_method_4_code 30 = .ok (.ireturn, 1) := by decide +kernel
theorem pn_com_example_ferrule_ferrule_io_CsvLayout : plainName "com/example/ferrule/ferrule/io/CsvLayout" = true := by first | (simp [plainName, overriddenIn]; done) | decide +kernel
set_option maxRecDepth 65536 in
set_option maxHeartbeats 40000000 in
theorem rm_issep (l : Launch) (Z : State) (a0 : Array Value) (hw : ∀ d ∈ tables_1, d.before a0 Z = true) (ws : List Jvm.Cond)  (p1 : Int32) (h0 : Heap) (n0 : Nat) (Z0 : n0 ≤ h0.size) (hc : own_okc p1) :
    MetFree l (⟨"com/example/ferrule/ferrule/io/CsvLayout", "isSeparator", "(C)Z"⟩ : MethodName) (head1 (Jvm.Cond.code (⟨"com/example/ferrule/ferrule/io/CsvLayout", "isSeparator", "(C)Z"⟩ : MethodName) prog_21_method_4_code 1 (some .boolean) :: ws) ({ frames := 0, cells := 0, slots := 0, locals := 0 } : Room)) (fun a U => a = #[(.int p1)] ∧ Z.Warmed39 U.vm ∧ U.heap = h0) (fun _ _ _ _ _ => True) (fun _ U o U' => ∃ v L, o = .returned v ∧ (K_rm_issep  Z h0 n0 p1) v U'.heap L ∧ FrameEnd U o U' L ({ frames := 0, cells := 0, slots := 0, locals := 0 } : Room).cells ({ frames := 0, cells := 0, slots := 0, locals := 0 } : Room).slots) := by
  refine own_body (plainFor_of_name pn_com_example_ferrule_ferrule_io_CsvLayout) ?_
  intro p e s m below meth c s₁ hx hby hml hown hnm hret hlk hZ X0 e0
  have hown : s.vm.findClass "com/example/ferrule/ferrule/io/CsvLayout" = some m.cls := hown
  have N0 := Fr.nil n0
  rw [ef_rm_issep m p1]
  refine own_iloadN X0 hx (pc' := 1) rfl (hb hby d_prog_21_method_4_code_0) rfl ?_
  refine own_sipush X0 hx (v := (128 : Int32)) (pc' := 4) rfl (hb hby d_prog_21_method_4_code_1) rfl ?_
  refine own_icmpF X0 hx (pc' := 7) rfl (hb hby d_prog_21_method_4_code_4) (XT.ii_ge_f hc.1) ?_
  refine own_iloadN X0 hx (pc' := 8) rfl (hb hby d_prog_21_method_4_code_7) rfl ?_
  refine own_bipush X0 hx (v := (34 : Int32)) (pc' := 10) rfl (hb hby d_prog_21_method_4_code_8) rfl ?_
  refine own_icmpF X0 hx (pc' := 13) rfl (hb hby d_prog_21_method_4_code_10) (XT.ii_eq_f hc.2.1) ?_
  refine own_iloadN X0 hx (pc' := 14) rfl (hb hby d_prog_21_method_4_code_13) rfl ?_
  refine own_bipush X0 hx (v := (10 : Int32)) (pc' := 16) rfl (hb hby d_prog_21_method_4_code_14) rfl ?_
  refine own_icmpF X0 hx (pc' := 19) rfl (hb hby d_prog_21_method_4_code_16) (XT.ii_eq_f hc.2.2.1) ?_
  refine own_iloadN X0 hx (pc' := 20) rfl (hb hby d_prog_21_method_4_code_19) rfl ?_
  refine own_bipush X0 hx (v := (13 : Int32)) (pc' := 22) rfl (hb hby d_prog_21_method_4_code_20) rfl ?_
  refine own_icmpF X0 hx (pc' := 25) rfl (hb hby d_prog_21_method_4_code_22) (XT.ii_eq_f hc.2.2.2.1) ?_
  refine own_iconst X0 hx (v := (1 : Int32)) (pc' := 26) rfl (hb hby d_prog_21_method_4_code_25) rfl ?_
  refine own_goto X0 hx (pc' := 30) (hb hby d_prog_21_method_4_code_26) (by decide) (by decide) ?_
  refine own_zret X0 hx hlk hret (by simp) (hb hby d_prog_21_method_4_code_30) (by decide) (by decide) ?_
  rw [e0]
  exact ⟨rfl, N0, rfl⟩
theorem ef_rm_csv (m : MethodId) (a1 : Addr) (p2 : Int32) (a3 : Addr) : entryFrame m #[(.ref a1), (.int p2), (.ref a3)] 3 = mkF m 0 #[.val (.ref a1), .val (.int p2), .val (.ref a3)] [] := by first | (simp [entryFrame, mkF, argsToLocals, Value.category]; done) | rfl
def K_rm_csv  (Z : State) (h0 : Heap) (n0 : Nat) (a1 : Addr) (p2 : Int32) (a3 : Addr) (v : Option Value) (h : Heap) (L : List Loc) : Prop := v = none ∧ Fr n0 L ∧ Keep h0 h [a1] ∧ Exa Z h a1 "com/example/ferrule/ferrule/io/CsvLayout" ∧ Fld Z h a1 "com/example/ferrule/ferrule/io/CsvLayout" "separator" "C" (.int p2) ∧ Fld Z h a1 "com/example/ferrule/ferrule/io/CsvLayout" "header" "Lcom/example/ferrule/ferrule/io/CsvLayout$Header;" (.ref a3)
theorem d_prog_21_method_1_code_0 : decode prog_21_method_1_code 0 = .ok (.aload_n 0, 1) := by decide +kernel
theorem d_prog_21_method_1_code_1 : decode prog_21_method_1_code 1 = .ok (.invokespecial 1, 3) := by decide +kernel
theorem pd___V : parseMethodDescriptor "()V" = some ⟨[], none⟩ := by decide +kernel
theorem d_prog_21_method_1_code_4 : decode prog_21_method_1_code 4 = .ok (.iload_n 1, 1) := by decide +kernel
theorem d_prog_21_method_1_code_5 : decode prog_21_method_1_code 5 = .ok (.invokestatic 7, 3) := by decide +kernel
theorem pd__C_Z : parseMethodDescriptor "(C)Z" = some ⟨[.char], some .boolean⟩ := by decide +kernel
theorem d_prog_21_method_1_code_8 : decode prog_21_method_1_code 8 = .ok (.ifCond .ne 32, 3) := by decide +kernel
theorem d_prog_21_method_1_code_40 : decode prog_21_method_1_code 40 = .ok (.aload_n 0, 1) := by decide +kernel
theorem d_prog_21_method_1_code_41 : decode prog_21_method_1_code 41 = .ok (.iload_n 1, 1) := by decide +kernel
theorem d_prog_21_method_1_code_42 : decode prog_21_method_1_code 42 = .ok (.putfield 38, 3) := by decide +kernel
theorem d_prog_21_method_1_code_45 : decode prog_21_method_1_code 45 = .ok (.aload_n 0, 1) := by decide +kernel
theorem d_prog_21_method_1_code_46 : decode prog_21_method_1_code 46 = .ok (.aload_n 2, 1) := by decide +kernel
theorem d_prog_21_method_1_code_47 : decode prog_21_method_1_code 47 = .ok (.putfield 42, 3) := by decide +kernel
theorem d_prog_21_method_1_code_50 : decode prog_21_method_1_code 50 = .ok (.return_, 1) := by decide +kernel
set_option maxRecDepth 65536 in
set_option maxHeartbeats 40000000 in
theorem rm_csv (l : Launch) (Z : State) (a0 : Array Value) (hw : ∀ d ∈ tables_1, d.before a0 Z = true) (ws : List Jvm.Cond)  (a1 : Addr) (p2 : Int32) (a3 : Addr) (h0 : Heap) (n0 : Nat) (Z0 : n0 ≤ h0.size) (I0 : Exa Z h0 a1 "com/example/ferrule/ferrule/io/CsvLayout") (I1 : Fld Z h0 a1 "com/example/ferrule/ferrule/io/CsvLayout" "separator" "C" (.int (0 : Int32))) (I2 : Fld Z h0 a1 "com/example/ferrule/ferrule/io/CsvLayout" "header" "Lcom/example/ferrule/ferrule/io/CsvLayout$Header;" .null) (ge_a1 : n0 ≤ a1) (hc : own_okc p2) :
    MetFree l (⟨"com/example/ferrule/ferrule/io/CsvLayout", "<init>", "(CLcom/example/ferrule/ferrule/io/CsvLayout$Header;)V"⟩ : MethodName) (head1 (Jvm.Cond.code (⟨"com/example/ferrule/ferrule/io/CsvLayout", "<init>", "(CLcom/example/ferrule/ferrule/io/CsvLayout$Header;)V"⟩ : MethodName) prog_21_method_1_code 3 none :: ws) ({ frames := 2, cells := 0, slots := 0, locals := 24 } : Room)) (fun a U => a = #[(.ref a1), (.int p2), (.ref a3)] ∧ Z.Warmed39 U.vm ∧ U.heap = h0) (fun _ _ _ _ _ => True) (fun _ U o U' => ∃ v L, o = .returned v ∧ (K_rm_csv  Z h0 n0 a1 p2 a3) v U'.heap L ∧ FrameEnd U o U' L ({ frames := 2, cells := 0, slots := 0, locals := 24 } : Room).cells ({ frames := 2, cells := 0, slots := 0, locals := 24 } : Room).slots) := by
  refine own_body (plainFor_of_name pn_com_example_ferrule_ferrule_io_CsvLayout) ?_
  intro p e s m below meth c s₁ hx hby hml hown hnm hret hlk hZ X0 e0
  have hown : s.vm.findClass "com/example/ferrule/ferrule/io/CsvLayout" = some m.cls := hown
  have N0 := Fr.nil n0
  rw [ef_rm_csv m a1 p2 a3]
  have K0 := Keep.refl h0 [a1]
  refine own_aloadN X0 hx (pc' := 1) rfl (hb hby d_prog_21_method_1_code_0) rfl rfl ?_
  refine own_callC X0 hx hZ (y := (⟨"java/lang/Record", "<init>", "()V"⟩ : MethodName)) rfl hown (hw _ (List.mem_of_getElem? (i := 19) rfl)) (hw _ (List.mem_of_getElem? (i := 20) rfl)) (hw _ (List.mem_of_getElem? (i := 22) rfl)) (hw _ (List.mem_of_getElem? (i := 23) rfl))  (by decide) (rm_rec l Z a0 hw [] a1 h0 n0 Z0) (by decide) (W := 0) (by decide) (by decide) (by decide) e0 (by rw [hml]; rfl) (argsL := []) (rest := []) rfl (lenOf pd___V rfl) rfl (Nat.le_of_eq rfl) (pc' := 4) rfl (hb hby d_prog_21_method_1_code_1) ?_
  rintro _ T1 L1 X1 ⟨rfl, N1, e1⟩
  have M1 := Fr.app N0 N1
  show own_Goes p e below T1 (mkF m 4 #[.val (.ref a1), .val (.int p2), .val (.ref a3)] []) _
  refine own_iloadN X1 hx (pc' := 5) rfl (hb hby d_prog_21_method_1_code_4) rfl ?_
  refine own_callS X1 hx hZ (y := (⟨"com/example/ferrule/ferrule/io/CsvLayout", "isSeparator", "(C)Z"⟩ : MethodName)) hown (hw _ (List.mem_of_getElem? (i := 27) rfl)) (hw _ (List.mem_of_getElem? (i := 28) rfl)) (hw _ (List.mem_of_getElem? (i := 15) rfl)) (hw _ (List.mem_of_getElem? (i := 29) rfl))  (by decide) (rm_issep l Z a0 hw [] p2 h0 n0 Z0 hc) (by decide) (W := 0) (by decide) (by decide) (by decide) e1 (by rw [hml]; rfl) (argsL := [(.int p2)]) (rest := []) rfl (lenOf pd__C_Z rfl) rfl (Nat.le_of_eq rfl) (pc' := 8) rfl (hb hby d_prog_21_method_1_code_5) ?_
  rintro _ T2 L2 X2 ⟨rfl, N2, e2⟩
  have M2 := Fr.app M1 N2
  show own_Goes p e below T2 (mkF m 8 #[.val (.ref a1), .val (.int p2), .val (.ref a3)] [(.int (1 : Int32))]) _
  refine own_ifT X2 hx (pc' := 40) (hb hby d_prog_21_method_1_code_8) (XT.i0_ne_t (by decide)) (by decide) (by decide) ?_
  refine own_aloadN X2 hx (pc' := 41) rfl (hb hby d_prog_21_method_1_code_40) rfl rfl ?_
  refine own_iloadN X2 hx (pc' := 42) rfl (hb hby d_prog_21_method_1_code_41) rfl ?_
  refine own_putF X2 hx hZ hown (host := "") (Or.inl (hw _ (List.mem_of_getElem? (i := 30) rfl))) Via.refl e2 I1 I0 (Or.inr ⟨(hw _ (List.mem_of_getElem? (i := 31) rfl)), rfl, hnm⟩) (hw _ (List.mem_of_getElem? (i := 14) rfl)) (ty := .char) (by decide) hc.2.2.2.2.1 hc.2.2.2.2.2 (pc' := 45) rfl (hb hby d_prog_21_method_1_code_42) ?_
  intro T3 h3 X3 e3 W3
  have F4 := Fld.same W3 I1
  have Siz_5 := own_sizWr W3 Z0
  have Exa_6 := Exa.wr W3 I0
  have Fld_8 := Fld.other W3 I2 (Or.inr (slot_ne (Or.inr (hw _ (List.mem_of_getElem? (i := 33) rfl))) (Or.inr (hw _ (List.mem_of_getElem? (i := 31) rfl))) (by decide) (t := (.object "com/example/ferrule/ferrule/io/CsvLayout$Header")) (t' := .char) (by decide) (by decide)))
  have N3 := Fr.snoc X3 M2 ge_a1
  have K3 := Keep.wr K0 W3 (Or.inl (by simp))
  refine own_aloadN X3 hx (pc' := 46) rfl (hb hby d_prog_21_method_1_code_45) rfl rfl ?_
  refine own_aloadN X3 hx (pc' := 47) rfl (hb hby d_prog_21_method_1_code_46) rfl rfl ?_
  refine own_putF X3 hx hZ hown (host := "") (Or.inl (hw _ (List.mem_of_getElem? (i := 32) rfl))) Via.refl e3 Fld_8 Exa_6 (Or.inr ⟨(hw _ (List.mem_of_getElem? (i := 33) rfl)), rfl, hnm⟩) (hw _ (List.mem_of_getElem? (i := 14) rfl)) (ty := (.object "com/example/ferrule/ferrule/io/CsvLayout$Header")) (by decide) rfl rfl (pc' := 50) rfl (hb hby d_prog_21_method_1_code_47) ?_
  intro T9 h9 X9 e9 W9
  have F10 := Fld.same W9 Fld_8
  have Siz_11 := own_sizWr W9 Siz_5
  have Exa_12 := Exa.wr W9 Exa_6
  have Fld_14 := Fld.other W9 F4 (Or.inr (slot_ne (Or.inr (hw _ (List.mem_of_getElem? (i := 31) rfl))) (Or.inr (hw _ (List.mem_of_getElem? (i := 33) rfl))) (by decide) (t := .char) (t' := (.object "com/example/ferrule/ferrule/io/CsvLayout$Header")) (by decide) (by decide)))
  have N9 := Fr.snoc X9 N3 ge_a1
  have K9 := Keep.wr K3 W9 (Or.inl (by simp))
  refine own_ret X9 hx hlk hret (hb hby d_prog_21_method_1_code_50) (by decide) (by decide) ?_
  rw [e9]
  exact ⟨rfl, N9, K9, Exa_12, Fld_14, F10⟩
theorem ef_rm_eqN (m : MethodId) (a1 : Addr) : entryFrame m #[(.ref a1), .null] 3 = mkF m 0 #[.val (.ref a1), .val .null, .unset] [] := by first | (simp [entryFrame, mkF, argsToLocals, Value.category]; done) | rfl
def K_rm_eqN  (Z : State) (h0 : Heap) (n0 : Nat) (a1 : Addr) (v : Option Value) (h : Heap) (L : List Loc) : Prop := v = some (.int (0 : Int32)) ∧ Fr n0 L ∧ h = h0
theorem d_prog_21_method_2_code_0 : decode prog_21_method_2_code 0 = .ok (.aload_n 1, 1) := by decide +kernel
theorem d_prog_21_method_2_code_1 : decode prog_21_method_2_code 1 = .ok (.instanceof 8, 3) := by decide +kernel
theorem d_prog_21_method_2_code_4 : decode prog_21_method_2_code 4 = .ok (.ifCond .eq 34, 3) := by decide +kernel
theorem d_prog_21_method_2_code_38 : decode prog_21_method_2_code 38 = .ok (.iconst 0, 1) := by decide +kernel
theorem d_prog_21_method_2_code_39 : decode prog_21_method_2_code 39 = .ok (.ireturn, 1) := by decide +kernel
set_option maxRecDepth 65536 in
set_option maxHeartbeats 40000000 in
theorem rm_eqN (l : Launch) (Z : State) (a0 : Array Value) (hw : ∀ d ∈ tables_1, d.before a0 Z = true) (ws : List Jvm.Cond)  (a1 : Addr) (h0 : Heap) (n0 : Nat) (Z0 : n0 ≤ h0.size) (I0 : Exa Z h0 a1 "com/example/ferrule/ferrule/io/CsvLayout") :
    MetFree l (⟨"com/example/ferrule/ferrule/io/CsvLayout", "equals", "(Ljava/lang/Object;)Z"⟩ : MethodName) (head1 (Jvm.Cond.code (⟨"com/example/ferrule/ferrule/io/CsvLayout", "equals", "(Ljava/lang/Object;)Z"⟩ : MethodName) prog_21_method_2_code 3 (some .boolean) :: ws) ({ frames := 0, cells := 0, slots := 0, locals := 0 } : Room)) (fun a U => a = #[(.ref a1), .null] ∧ Z.Warmed39 U.vm ∧ U.heap = h0) (fun _ _ _ _ _ => True) (fun _ U o U' => ∃ v L, o = .returned v ∧ (K_rm_eqN  Z h0 n0 a1) v U'.heap L ∧ FrameEnd U o U' L ({ frames := 0, cells := 0, slots := 0, locals := 0 } : Room).cells ({ frames := 0, cells := 0, slots := 0, locals := 0 } : Room).slots) := by
  refine own_body (plainFor_of_name pn_com_example_ferrule_ferrule_io_CsvLayout) ?_
  intro p e s m below meth c s₁ hx hby hml hown hnm hret hlk hZ X0 e0
  have hown : s.vm.findClass "com/example/ferrule/ferrule/io/CsvLayout" = some m.cls := hown
  have N0 := Fr.nil n0
  rw [ef_rm_eqN m a1]
  refine own_aloadN X0 hx (pc' := 1) rfl (hb hby d_prog_21_method_2_code_0) rfl rfl ?_
  refine own_instNull X0 hx (pc' := 4) rfl (hb hby d_prog_21_method_2_code_1) ?_
  refine own_ifT X0 hx (pc' := 38) (hb hby d_prog_21_method_2_code_4) (XT.i0_eq_t (by decide)) (by decide) (by decide) ?_
  refine own_iconst X0 hx (v := (0 : Int32)) (pc' := 39) rfl (hb hby d_prog_21_method_2_code_38) rfl ?_
  refine own_zret X0 hx hlk hret (by simp) (hb hby d_prog_21_method_2_code_39) (by decide) (by decide) ?_
  rw [e0]
  exact ⟨rfl, N0, rfl⟩
theorem own_notsub (Z : State) (a0 : Array Value) (hw : ∀ d ∈ tables_1, d.before a0 Z = true) : ∃ c t, Z.vm.findClass "java/lang/Integer" = some c ∧ Z.vm.findClass "com/example/ferrule/ferrule/io/CsvLayout" = some t ∧ Z.vm.assignable c t = false := by
  obtain ⟨t, kt, g0, g2, g5, g7, -, -⟩ := Cond.instantiable_spec ((hw _ (List.mem_of_getElem? (i := 14) rfl)) : (Jvm.Cond.instantiable "com/example/ferrule/ferrule/io/CsvLayout" 2).before a0 Z = true)
  have gi : kt.isInterface = false := by simp only [Bool.or_eq_false_iff] at g7; exact g7.1
  have wI : (Jvm.Cond.superclass "java/lang/Integer" "java/lang/Number").before a0 Z = true := (hw _ (List.mem_of_getElem? (i := 50) rfl))
  have wN : (Jvm.Cond.superclass "java/lang/Number" "java/lang/Object").before a0 Z = true := (hw _ (List.mem_of_getElem? (i := 51) rfl))
  have wO : (Jvm.Cond.noSuperclass "java/lang/Object").before a0 Z = true := (hw _ (List.mem_of_getElem? (i := 52) rfl))
  obtain ⟨cO, kO, o1, o2, o3, -, -⟩ := Cond.noSuperclass_spec wO
  have neO := ids_ne o1 g0 (by decide)
  have nO : ∀ fuel, Z.vm.isSubclassAux fuel cO t = false := fun fuel => by
    cases fuel with
    | zero => rfl
    | succ f => simp [Vm.isSubclassAux, neO, o2, o3]
  obtain ⟨cN, n0⟩ := found_sup wN
  obtain ⟨pN, kN, kpN, n1, n2, n3, n4, -⟩ := Cond.superclass_spec n0 wN
  cases o1.symm.trans n1
  have neN := ids_ne n0 g0 (by decide)
  have nN : ∀ fuel, Z.vm.isSubclassAux fuel cN t = false := fun fuel => by
    cases fuel with
    | zero => rfl
    | succ f => simp [Vm.isSubclassAux, neN, n2, n4, nO]
  obtain ⟨cI, i0⟩ := found_sup wI
  obtain ⟨pI, kI, kpI, i1, i2, i3, i4, i5, -⟩ := Cond.superclass_spec i0 wI
  cases n0.symm.trans i1
  have neI := ids_ne i0 g0 (by decide)
  have nI : ∀ fuel, Z.vm.isSubclassAux fuel cI t = false := fun fuel => by
    cases fuel with
    | zero => rfl
    | succ f => simp [Vm.isSubclassAux, neI, i2, i4, nN]
  refine ⟨cI, t, i0, g0, ?_⟩
  show Z.vm.assignableAux (255 + 1) cI t = false
  simp [Vm.assignableAux, neI, i2, g2, i5, g5, gi, Vm.isSubclass, nI]
theorem ef_rm_eqI (m : MethodId) (a1 : Addr) (a2 : Addr) : entryFrame m #[(.ref a1), (.ref a2)] 3 = mkF m 0 #[.val (.ref a1), .val (.ref a2), .unset] [] := by first | (simp [entryFrame, mkF, argsToLocals, Value.category]; done) | rfl
def K_rm_eqI  (Z : State) (h0 : Heap) (n0 : Nat) (a1 : Addr) (a2 : Addr) (v : Option Value) (h : Heap) (L : List Loc) : Prop := v = some (.int (0 : Int32)) ∧ Fr n0 L ∧ h = h0
set_option maxRecDepth 65536 in
set_option maxHeartbeats 40000000 in
theorem rm_eqI (l : Launch) (Z : State) (a0 : Array Value) (hw : ∀ d ∈ tables_1, d.before a0 Z = true) (ws : List Jvm.Cond)  (a1 : Addr) (a2 : Addr) (h0 : Heap) (n0 : Nat) (Z0 : n0 ≤ h0.size) (I0 : Exa Z h0 a1 "com/example/ferrule/ferrule/io/CsvLayout") (I1 : Exa Z h0 a2 "java/lang/Integer") :
    MetFree l (⟨"com/example/ferrule/ferrule/io/CsvLayout", "equals", "(Ljava/lang/Object;)Z"⟩ : MethodName) (head1 (Jvm.Cond.code (⟨"com/example/ferrule/ferrule/io/CsvLayout", "equals", "(Ljava/lang/Object;)Z"⟩ : MethodName) prog_21_method_2_code 3 (some .boolean) :: ws) ({ frames := 0, cells := 0, slots := 0, locals := 0 } : Room)) (fun a U => a = #[(.ref a1), (.ref a2)] ∧ Z.Warmed39 U.vm ∧ U.heap = h0) (fun _ _ _ _ _ => True) (fun _ U o U' => ∃ v L, o = .returned v ∧ (K_rm_eqI  Z h0 n0 a1 a2) v U'.heap L ∧ FrameEnd U o U' L ({ frames := 0, cells := 0, slots := 0, locals := 0 } : Room).cells ({ frames := 0, cells := 0, slots := 0, locals := 0 } : Room).slots) := by
  refine own_body (plainFor_of_name pn_com_example_ferrule_ferrule_io_CsvLayout) ?_
  intro p e s m below meth c s₁ hx hby hml hown hnm hret hlk hZ X0 e0
  have hown : s.vm.findClass "com/example/ferrule/ferrule/io/CsvLayout" = some m.cls := hown
  have N0 := Fr.nil n0
  rw [ef_rm_eqI m a1 a2]
  refine own_aloadN X0 hx (pc' := 1) rfl (hb hby d_prog_21_method_2_code_0) rfl rfl ?_
  refine own_instNo X0 hx hZ hown (hw _ (List.mem_of_getElem? (i := 39) rfl)) e0 I1 (own_notsub Z a0 hw) (pc' := 4) rfl (hb hby d_prog_21_method_2_code_1) ?_
  intro T1 X1 e1
  refine own_ifT X1 hx (pc' := 38) (hb hby d_prog_21_method_2_code_4) (XT.i0_eq_t (by decide)) (by decide) (by decide) ?_
  refine own_iconst X1 hx (v := (0 : Int32)) (pc' := 39) rfl (hb hby d_prog_21_method_2_code_38) rfl ?_
  refine own_zret X1 hx hlk hret (by simp) (hb hby d_prog_21_method_2_code_39) (by decide) (by decide) ?_
  rw [e1]
  exact ⟨rfl, N0, rfl⟩
theorem ef_rm_eqC (m : MethodId) (a1 : Addr) (a2 : Addr) : entryFrame m #[(.ref a1), (.ref a2)] 3 = mkF m 0 #[.val (.ref a1), .val (.ref a2), .unset] [] := by first | (simp [entryFrame, mkF, argsToLocals, Value.category]; done) | rfl
def K_rm_eqC (f1 : Int32) (g1 : Addr) (f2 : Int32) (g2 : Addr) (Z : State) (h0 : Heap) (n0 : Nat) (a1 : Addr) (a2 : Addr) (v : Option Value) (h : Heap) (L : List Loc) : Prop := v = some (.int (own_eq f1 f2 g1 g2)) ∧ Fr n0 L ∧ h = h0
theorem d_prog_21_method_2_code_7 : decode prog_21_method_2_code 7 = .ok (.aload_n 1, 1) := by decide +kernel
theorem d_prog_21_method_2_code_8 : decode prog_21_method_2_code 8 = .ok (.checkcast 8, 3) := by decide +kernel
theorem d_prog_21_method_2_code_11 : decode prog_21_method_2_code 11 = .ok (.astore_n 2, 1) := by decide +kernel
theorem d_prog_21_method_2_code_12 : decode prog_21_method_2_code 12 = .ok (.aload_n 0, 1) := by decide +kernel
theorem d_prog_21_method_2_code_13 : decode prog_21_method_2_code 13 = .ok (.getfield 38, 3) := by decide +kernel
theorem d_prog_21_method_2_code_16 : decode prog_21_method_2_code 16 = .ok (.aload_n 2, 1) := by decide +kernel
theorem d_prog_21_method_2_code_17 : decode prog_21_method_2_code 17 = .ok (.getfield 38, 3) := by decide +kernel
theorem d_prog_21_method_2_code_20 : decode prog_21_method_2_code 20 = .ok (.if_icmp .ne 18, 3) := by decide +kernel
theorem d_prog_21_method_2_code_23 : decode prog_21_method_2_code 23 = .ok (.aload_n 0, 1) := by decide +kernel
theorem d_prog_21_method_2_code_24 : decode prog_21_method_2_code 24 = .ok (.getfield 42, 3) := by decide +kernel
theorem d_prog_21_method_2_code_27 : decode prog_21_method_2_code 27 = .ok (.aload_n 2, 1) := by decide +kernel
theorem d_prog_21_method_2_code_28 : decode prog_21_method_2_code 28 = .ok (.getfield 42, 3) := by decide +kernel
theorem d_prog_21_method_2_code_31 : decode prog_21_method_2_code 31 = .ok (.if_acmp .ne 7, 3) := by decide +kernel
theorem d_prog_21_method_2_code_34 : decode prog_21_method_2_code 34 = .ok (.iconst 1, 1) := by decide +kernel
theorem d_prog_21_method_2_code_35 : decode prog_21_method_2_code 35 = .ok (.goto 4, 3) := by decide +kernel
set_option maxRecDepth 65536 in
set_option maxHeartbeats 40000000 in
theorem rm_eqC (l : Launch) (Z : State) (a0 : Array Value) (hw : ∀ d ∈ tables_1, d.before a0 Z = true) (ws : List Jvm.Cond) (f1 : Int32) (g1 : Addr) (f2 : Int32) (g2 : Addr) (a1 : Addr) (a2 : Addr) (h0 : Heap) (n0 : Nat) (Z0 : n0 ≤ h0.size) (I0 : Exa Z h0 a1 "com/example/ferrule/ferrule/io/CsvLayout") (I1 : Fld Z h0 a1 "com/example/ferrule/ferrule/io/CsvLayout" "separator" "C" (.int f1)) (I2 : Fld Z h0 a1 "com/example/ferrule/ferrule/io/CsvLayout" "header" "Lcom/example/ferrule/ferrule/io/CsvLayout$Header;" (.ref g1)) (I3 : Exa Z h0 a2 "com/example/ferrule/ferrule/io/CsvLayout") (I4 : Fld Z h0 a2 "com/example/ferrule/ferrule/io/CsvLayout" "separator" "C" (.int f2)) (I5 : Fld Z h0 a2 "com/example/ferrule/ferrule/io/CsvLayout" "header" "Lcom/example/ferrule/ferrule/io/CsvLayout$Header;" (.ref g2)) :
    MetFree l (⟨"com/example/ferrule/ferrule/io/CsvLayout", "equals", "(Ljava/lang/Object;)Z"⟩ : MethodName) (head1 (Jvm.Cond.code (⟨"com/example/ferrule/ferrule/io/CsvLayout", "equals", "(Ljava/lang/Object;)Z"⟩ : MethodName) prog_21_method_2_code 3 (some .boolean) :: ws) ({ frames := 0, cells := 0, slots := 0, locals := 0 } : Room)) (fun a U => a = #[(.ref a1), (.ref a2)] ∧ Z.Warmed39 U.vm ∧ U.heap = h0) (fun _ _ _ _ _ => True) (fun _ U o U' => ∃ v L, o = .returned v ∧ (K_rm_eqC f1 g1 f2 g2 Z h0 n0 a1 a2) v U'.heap L ∧ FrameEnd U o U' L ({ frames := 0, cells := 0, slots := 0, locals := 0 } : Room).cells ({ frames := 0, cells := 0, slots := 0, locals := 0 } : Room).slots) := by
  refine own_body (plainFor_of_name pn_com_example_ferrule_ferrule_io_CsvLayout) ?_
  intro p e s m below meth c s₁ hx hby hml hown hnm hret hlk hZ X0 e0
  have hown : s.vm.findClass "com/example/ferrule/ferrule/io/CsvLayout" = some m.cls := hown
  have N0 := Fr.nil n0
  rw [ef_rm_eqC m a1 a2]
  refine own_aloadN X0 hx (pc' := 1) rfl (hb hby d_prog_21_method_2_code_0) rfl rfl ?_
  refine own_instY X0 hx hZ hown (hw _ (List.mem_of_getElem? (i := 39) rfl)) e0 (Ins.self I3) (pc' := 4) rfl (hb hby d_prog_21_method_2_code_1) ?_
  intro T1 X1 e1
  refine own_ifF X1 hx (pc' := 7) rfl (hb hby d_prog_21_method_2_code_4) (XT.i0_eq_f (by decide)) ?_
  refine own_aloadN X1 hx (pc' := 8) rfl (hb hby d_prog_21_method_2_code_7) rfl rfl ?_
  refine own_castY X1 hx hZ hown (hw _ (List.mem_of_getElem? (i := 39) rfl)) e1 (Ins.self I3) (pc' := 11) rfl (hb hby d_prog_21_method_2_code_8) ?_
  intro T2 X2 e2
  refine own_astoreN X2 hx (Ls' := #[.val (.ref a1), .val (.ref a2), .val (.ref a2)]) (pc' := 12) rfl (hb hby d_prog_21_method_2_code_11) rfl rfl ?_
  refine own_aloadN X2 hx (pc' := 13) rfl (hb hby d_prog_21_method_2_code_12) rfl rfl ?_
  refine own_getF X2 hx hZ hown (host := "") (Or.inl (hw _ (List.mem_of_getElem? (i := 30) rfl))) Via.refl e2 I1 (pc' := 16) rfl (hb hby d_prog_21_method_2_code_13) ?_
  intro T3 X3 e3
  refine own_aloadN X3 hx (pc' := 17) rfl (hb hby d_prog_21_method_2_code_16) rfl rfl ?_
  refine own_getF X3 hx hZ hown (host := "") (Or.inl (hw _ (List.mem_of_getElem? (i := 30) rfl))) Via.refl e3 I4 (pc' := 20) rfl (hb hby d_prog_21_method_2_code_17) ?_
  intro T4 X4 e4
  by_cases c20_5 : f1 = f2
  · refine own_icmpF X4 hx (pc' := 23) rfl (hb hby d_prog_21_method_2_code_20) (XT.ii_ne_f c20_5) ?_
    refine own_aloadN X4 hx (pc' := 24) rfl (hb hby d_prog_21_method_2_code_23) rfl rfl ?_
    refine own_getF X4 hx hZ hown (host := "") (Or.inl (hw _ (List.mem_of_getElem? (i := 32) rfl))) Via.refl e4 I2 (pc' := 27) rfl (hb hby d_prog_21_method_2_code_24) ?_
    intro T6 X6 e6
    refine own_aloadN X6 hx (pc' := 28) rfl (hb hby d_prog_21_method_2_code_27) rfl rfl ?_
    refine own_getF X6 hx hZ hown (host := "") (Or.inl (hw _ (List.mem_of_getElem? (i := 32) rfl))) Via.refl e6 I5 (pc' := 31) rfl (hb hby d_prog_21_method_2_code_28) ?_
    intro T7 X7 e7
    by_cases c31_8 : (Value.ref g1) = (Value.ref g2)
    · refine own_acmpF X7 hx (pc' := 34) rfl (hb hby d_prog_21_method_2_code_31) rfl rfl (XT.aa_ne_f c31_8) ?_
      refine own_iconst X7 hx (v := (1 : Int32)) (pc' := 35) rfl (hb hby d_prog_21_method_2_code_34) rfl ?_
      refine own_goto X7 hx (pc' := 39) (hb hby d_prog_21_method_2_code_35) (by decide) (by decide) ?_
      refine own_zret X7 hx hlk hret (by simp) (hb hby d_prog_21_method_2_code_39) (by decide) (by decide) ?_
      rw [e7]
      exact ⟨by first | (simp only [own_eq, if_pos c20_5, if_pos c31_8]; done) | (simp only [own_eq, if_pos c20_5, if_pos c31_8]; rfl), N0, rfl⟩
    · refine own_acmpT X7 hx (pc' := 38) (hb hby d_prog_21_method_2_code_31) rfl rfl (XT.aa_ne_t c31_8) (by decide) (by decide) ?_
      refine own_iconst X7 hx (v := (0 : Int32)) (pc' := 39) rfl (hb hby d_prog_21_method_2_code_38) rfl ?_
      refine own_zret X7 hx hlk hret (by simp) (hb hby d_prog_21_method_2_code_39) (by decide) (by decide) ?_
      rw [e7]
      exact ⟨by first | (simp only [own_eq, if_pos c20_5, if_neg c31_8]; done) | (simp only [own_eq, if_pos c20_5, if_neg c31_8]; rfl), N0, rfl⟩
  · refine own_icmpT X4 hx (pc' := 38) (hb hby d_prog_21_method_2_code_20) (XT.ii_ne_t c20_5) (by decide) (by decide) ?_
    refine own_iconst X4 hx (v := (0 : Int32)) (pc' := 39) rfl (hb hby d_prog_21_method_2_code_38) rfl ?_
    refine own_zret X4 hx hlk hret (by simp) (hb hby d_prog_21_method_2_code_39) (by decide) (by decide) ?_
    rw [e4]
    exact ⟨by first | (simp only [own_eq, if_neg c20_5]; done) | (simp only [own_eq, if_neg c20_5]; rfl), N0, rfl⟩
theorem ef_rm_num (m : MethodId) (a1 : Addr) : entryFrame m #[(.ref a1)] 1 = mkF m 0 #[.val (.ref a1)] [] := by first | (simp [entryFrame, mkF, argsToLocals, Value.category]; done) | rfl
def K_rm_num  (Z : State) (h0 : Heap) (n0 : Nat) (a1 : Addr) (v : Option Value) (h : Heap) (L : List Loc) : Prop := v = none ∧ Fr n0 L ∧ h = h0
theorem d_jdk_18_method_1_code_0 : decode jdk_18_method_1_code 0 = .ok (.aload_n 0, 1) := by decide +kernel
theorem d_jdk_18_method_1_code_1 : decode jdk_18_method_1_code 1 = .ok (.invokespecial 1, 3) := by decide +kernel
theorem d_jdk_18_method_1_code_4 : decode jdk_18_method_1_code 4 = .ok (.return_, 1) := by decide +kernel
theorem pn_java_lang_Number : plainName "java/lang/Number" = true := by first | (simp [plainName, overriddenIn]; done) | decide +kernel
set_option maxRecDepth 65536 in
set_option maxHeartbeats 40000000 in
theorem rm_num (l : Launch) (Z : State) (a0 : Array Value) (hw : ∀ d ∈ tables_1, d.before a0 Z = true) (ws : List Jvm.Cond)  (a1 : Addr) (h0 : Heap) (n0 : Nat) (Z0 : n0 ≤ h0.size) :
    MetFree l (⟨"java/lang/Number", "<init>", "()V"⟩ : MethodName) (head1 (Jvm.Cond.code (⟨"java/lang/Number", "<init>", "()V"⟩ : MethodName) jdk_18_method_1_code 1 none :: ws) ({ frames := 1, cells := 0, slots := 0, locals := 12 } : Room)) (fun a U => a = #[(.ref a1)] ∧ Z.Warmed39 U.vm ∧ U.heap = h0) (fun _ _ _ _ _ => True) (fun _ U o U' => ∃ v L, o = .returned v ∧ (K_rm_num  Z h0 n0 a1) v U'.heap L ∧ FrameEnd U o U' L ({ frames := 1, cells := 0, slots := 0, locals := 12 } : Room).cells ({ frames := 1, cells := 0, slots := 0, locals := 12 } : Room).slots) := by
  refine own_body (plainFor_of_name pn_java_lang_Number) ?_
  intro p e s m below meth c s₁ hx hby hml hown hnm hret hlk hZ X0 e0
  have hown : s.vm.findClass "java/lang/Number" = some m.cls := hown
  have N0 := Fr.nil n0
  rw [ef_rm_num m a1]
  refine own_aloadN X0 hx (pc' := 1) rfl (hb hby d_jdk_18_method_1_code_0) rfl rfl ?_
  refine own_initO X0 hx hZ hown (hw _ (List.mem_of_getElem? (i := 65) rfl)) (hw _ (List.mem_of_getElem? (i := 25) rfl)) (hw _ (List.mem_of_getElem? (i := 26) rfl)) e0 (by rw [hml]; rfl) (pc' := 4) rfl (hb hby d_jdk_18_method_1_code_1) (by decide) (W := 0) (Nat.le_of_eq rfl) (by decide) ?_
  intro T1 X1 e1
  refine own_ret X1 hx hlk hret (hb hby d_jdk_18_method_1_code_4) (by decide) (by decide) ?_
  rw [e1]
  exact ⟨rfl, N0, rfl⟩
theorem ef_rm_int (m : MethodId) (a1 : Addr) (p2 : Int32) : entryFrame m #[(.ref a1), (.int p2)] 2 = mkF m 0 #[.val (.ref a1), .val (.int p2)] [] := by first | (simp [entryFrame, mkF, argsToLocals, Value.category]; done) | rfl
def K_rm_int  (Z : State) (h0 : Heap) (n0 : Nat) (a1 : Addr) (p2 : Int32) (v : Option Value) (h : Heap) (L : List Loc) : Prop := v = none ∧ Fr n0 L ∧ Keep h0 h [a1] ∧ Exa Z h a1 "java/lang/Integer"
theorem d_jdk_33_method_23_code_0 : decode jdk_33_method_23_code 0 = .ok (.aload_n 0, 1) := by decide +kernel
theorem d_jdk_33_method_23_code_1 : decode jdk_33_method_23_code 1 = .ok (.invokespecial 202, 3) := by decide +kernel
theorem d_jdk_33_method_23_code_4 : decode jdk_33_method_23_code 4 = .ok (.aload_n 0, 1) := by decide +kernel
theorem d_jdk_33_method_23_code_5 : decode jdk_33_method_23_code 5 = .ok (.iload_n 1, 1) := by decide +kernel
theorem d_jdk_33_method_23_code_6 : decode jdk_33_method_23_code 6 = .ok (.putfield 205, 3) := by decide +kernel
theorem d_jdk_33_method_23_code_9 : decode jdk_33_method_23_code 9 = .ok (.return_, 1) := by decide +kernel
theorem pn_java_lang_Integer : plainName "java/lang/Integer" = true := by first | (simp [plainName, overriddenIn]; done) | decide +kernel
set_option maxRecDepth 65536 in
set_option maxHeartbeats 40000000 in
theorem rm_int (l : Launch) (Z : State) (a0 : Array Value) (hw : ∀ d ∈ tables_1, d.before a0 Z = true) (ws : List Jvm.Cond)  (a1 : Addr) (p2 : Int32) (h0 : Heap) (n0 : Nat) (Z0 : n0 ≤ h0.size) (I0 : Exa Z h0 a1 "java/lang/Integer") (I1 : Fld Z h0 a1 "java/lang/Integer" "value" "I" (.int (0 : Int32))) (ge_a1 : n0 ≤ a1) :
    MetFree l (⟨"java/lang/Integer", "<init>", "(I)V"⟩ : MethodName) (head1 (Jvm.Cond.code (⟨"java/lang/Integer", "<init>", "(I)V"⟩ : MethodName) jdk_33_method_23_code 2 none :: ws) ({ frames := 2, cells := 0, slots := 0, locals := 24 } : Room)) (fun a U => a = #[(.ref a1), (.int p2)] ∧ Z.Warmed39 U.vm ∧ U.heap = h0) (fun _ _ _ _ _ => True) (fun _ U o U' => ∃ v L, o = .returned v ∧ (K_rm_int  Z h0 n0 a1 p2) v U'.heap L ∧ FrameEnd U o U' L ({ frames := 2, cells := 0, slots := 0, locals := 24 } : Room).cells ({ frames := 2, cells := 0, slots := 0, locals := 24 } : Room).slots) := by
  refine own_body (plainFor_of_name pn_java_lang_Integer) ?_
  intro p e s m below meth c s₁ hx hby hml hown hnm hret hlk hZ X0 e0
  have hown : s.vm.findClass "java/lang/Integer" = some m.cls := hown
  have N0 := Fr.nil n0
  rw [ef_rm_int m a1 p2]
  have K0 := Keep.refl h0 [a1]
  refine own_aloadN X0 hx (pc' := 1) rfl (hb hby d_jdk_33_method_23_code_0) rfl rfl ?_
  refine own_callC X0 hx hZ (y := (⟨"java/lang/Number", "<init>", "()V"⟩ : MethodName)) rfl hown (hw _ (List.mem_of_getElem? (i := 59) rfl)) (hw _ (List.mem_of_getElem? (i := 60) rfl)) (hw _ (List.mem_of_getElem? (i := 63) rfl)) (hw _ (List.mem_of_getElem? (i := 64) rfl))  (by decide) (rm_num l Z a0 hw [] a1 h0 n0 Z0) (by decide) (W := 0) (by decide) (by decide) (by decide) e0 (by rw [hml]; rfl) (argsL := []) (rest := []) rfl (lenOf pd___V rfl) rfl (Nat.le_of_eq rfl) (pc' := 4) rfl (hb hby d_jdk_33_method_23_code_1) ?_
  rintro _ T1 L1 X1 ⟨rfl, N1, e1⟩
  have M1 := Fr.app N0 N1
  show own_Goes p e below T1 (mkF m 4 #[.val (.ref a1), .val (.int p2)] []) _
  refine own_aloadN X1 hx (pc' := 5) rfl (hb hby d_jdk_33_method_23_code_4) rfl rfl ?_
  refine own_iloadN X1 hx (pc' := 6) rfl (hb hby d_jdk_33_method_23_code_5) rfl ?_
  refine own_putF X1 hx hZ hown (host := "") (Or.inl (hw _ (List.mem_of_getElem? (i := 66) rfl))) Via.refl e1 I1 I0 (Or.inr ⟨(hw _ (List.mem_of_getElem? (i := 67) rfl)), rfl, hnm⟩) (hw _ (List.mem_of_getElem? (i := 54) rfl)) (ty := .int) (by decide) rfl rfl (pc' := 9) rfl (hb hby d_jdk_33_method_23_code_6) ?_
  intro T2 h2 X2 e2 W2
  have F3 := Fld.same W2 I1
  have Siz_4 := own_sizWr W2 Z0
  have Exa_5 := Exa.wr W2 I0
  have N2 := Fr.snoc X2 M1 ge_a1
  have K2 := Keep.wr K0 W2 (Or.inl (by simp))
  refine own_ret X2 hx hlk hret (hb hby d_jdk_33_method_23_code_9) (by decide) (by decide) ?_
  rw [e2]
  exact ⟨rfl, N2, K2, Exa_5⟩
theorem own_inr {p : Int32} {n : Nat} (hn : n = (256 : Int32).toNatClampNeg) (h1 : ¬ p < (-128 : Int32)) (h2 : ¬ (127 : Int32) < p) : ¬ ((p + (128 : Int32)) < 0 ∨ n ≤ (p + (128 : Int32)).toNatClampNeg) := by
  rw [Int32.lt_iff_toInt_lt, show (-128 : Int32).toInt = -128 from rfl] at h1
  rw [Int32.lt_iff_toInt_lt, show (127 : Int32).toInt = 127 from rfl] at h2
  have e : (p + (128 : Int32)).toInt = p.toInt + 128 := by rw [Jvm.Kit.i32_add (by rw [show (128 : Int32).toInt = 128 from rfl]; omega) (by rw [show (128 : Int32).toInt = 128 from rfl]; omega)]; rfl
  rintro (q | q)
  · rw [Int32.lt_iff_toInt_lt, e, show (0 : Int32).toInt = 0 from rfl] at q; omega
  · rw [hn, Int32.toNatClampNeg, Int32.toNatClampNeg, e, show (256 : Int32).toInt = 256 from rfl] at q
    omega
theorem own_ldA {p : Program} {l : Launch} {e : Env} {R : Room} {s : State} {m : MethodId} {args : Array Value} {below : List Frame} {meth : Method} {c : Code} {T : State} {locs : List Loc} {cells slots : Nat} {Z : State} {h : Heap} {Q : Outcome → State → Prop} {Ls : Array Slot} {st : List Value} {pc pc' : Nat} (X : Stand p l e R s m args below meth c T locs cells slots) (hx : p.tables.exec = Jvm.exec) (hZ : Z.Warmed39 s.vm) (eT : T.heap = h) {a : Addr} {cl : Cell} {K : String} (A : Arr Z h a cl (.object K)) {j : Int32} {v : Value} (hin : ¬ (j < 0 ∨ cl.slots.size ≤ j.toNatClampNeg)) (hv : cl.slots[j.toNatClampNeg]? = some v) (hp : pc + 1 = pc') (hd : decode c.code pc = .ok (.aaload, 1)) (q : own_Goes p e below T (mkF m pc' Ls (v :: st)) Q) : own_Goes p e below T (mkF m pc Ls (.int j :: .ref a :: st)) Q := by
  subst hp
  exact own_step (fun t z => X.aaload hx (j := j) (v := v) (by rw [eT]; exact A.1) (State.isArrayOf_alike hZ.alike A.2.1) rfl A.2.2 hin hv (g := mkF m pc Ls (.int j :: .ref a :: st)) rfl rfl hd t z) q
theorem ef_rm_vof (m : MethodId) (p1 : Int32) : entryFrame m #[(.int p1)] 1 = mkF m 0 #[.val (.int p1)] [] := by first | (simp [entryFrame, mkF, argsToLocals, Value.category]; done) | rfl
def K_rm_vof (ca : Addr) (cc : Cell) (vl : Int32 → Value) (Z : State) (h0 : Heap) (n0 : Nat) (p1 : Int32) (v : Option Value) (h : Heap) (L : List Loc) : Prop := ∃ r, v = some (.ref r) ∧ Fr n0 L ∧ Keep h0 h [] ∧ Exa Z h r "java/lang/Integer"
theorem d_jdk_33_method_22_code_0 : decode jdk_33_method_22_code 0 = .ok (.iload_n 0, 1) := by decide +kernel
theorem d_jdk_33_method_22_code_1 : decode jdk_33_method_22_code 1 = .ok (.bipush (-128), 2) := by decide +kernel
theorem d_jdk_33_method_22_code_3 : decode jdk_33_method_22_code 3 = .ok (.if_icmp .lt 20, 3) := by decide +kernel
theorem d_jdk_33_method_22_code_23 : decode jdk_33_method_22_code 23 = .ok (.new 1, 3) := by decide +kernel
theorem d_jdk_33_method_22_code_26 : decode jdk_33_method_22_code 26 = .ok (.dup, 1) := by decide +kernel
theorem d_jdk_33_method_22_code_27 : decode jdk_33_method_22_code 27 = .ok (.iload_n 0, 1) := by decide +kernel
theorem d_jdk_33_method_22_code_28 : decode jdk_33_method_22_code 28 = .ok (.invokespecial 199, 3) := by decide +kernel
theorem pd__I_V : parseMethodDescriptor "(I)V" = some ⟨[.int], none⟩ := by decide +kernel
theorem d_jdk_33_method_22_code_31 : decode jdk_33_method_22_code 31 = .ok (.areturn, 1) := by decide +kernel
theorem d_jdk_33_method_22_code_6 : decode jdk_33_method_22_code 6 = .ok (.iload_n 0, 1) := by decide +kernel
theorem d_jdk_33_method_22_code_7 : decode jdk_33_method_22_code 7 = .ok (.getstatic 191, 3) := by decide +kernel
theorem d_jdk_33_method_22_code_10 : decode jdk_33_method_22_code 10 = .ok (.if_icmp .gt 13, 3) := by decide +kernel
theorem d_jdk_33_method_22_code_13 : decode jdk_33_method_22_code 13 = .ok (.getstatic 195, 3) := by decide +kernel
theorem d_jdk_33_method_22_code_16 : decode jdk_33_method_22_code 16 = .ok (.iload_n 0, 1) := by decide +kernel
theorem d_jdk_33_method_22_code_17 : decode jdk_33_method_22_code 17 = .ok (.sipush 128, 3) := by decide +kernel
theorem d_jdk_33_method_22_code_20 : decode jdk_33_method_22_code 20 = .ok (.iadd, 1) := by decide +kernel
theorem d_jdk_33_method_22_code_21 : decode jdk_33_method_22_code 21 = .ok (.aaload, 1) := by decide +kernel
theorem d_jdk_33_method_22_code_22 : decode jdk_33_method_22_code 22 = .ok (.areturn, 1) := by decide +kernel
set_option maxRecDepth 65536 in
set_option maxHeartbeats 40000000 in
theorem rm_vof (l : Launch) (Z : State) (a0 : Array Value) (hw : ∀ d ∈ tables_1, d.before a0 Z = true) (ws : List Jvm.Cond) (ca : Addr) (cc : Cell) (vl : Int32 → Value) (p1 : Int32) (h0 : Heap) (n0 : Nat) (Z0 : n0 ≤ h0.size) (SH : Sta Z h0 "java/lang/Integer$IntegerCache" "high" "I" (.int (127 : Int32))) (SA : Sta Z h0 "java/lang/Integer$IntegerCache" "cache" "[Ljava/lang/Integer;" (.ref ca)) (OL : Old Z n0 h0) (BX : Bxs Z ca cc "java/lang/Integer" "I" (256 : Int32) vl) :
    MetFree l (⟨"java/lang/Integer", "valueOf", "(I)Ljava/lang/Integer;"⟩ : MethodName) (head1 (Jvm.Cond.code (⟨"java/lang/Integer", "valueOf", "(I)Ljava/lang/Integer;"⟩ : MethodName) jdk_33_method_22_code 1 (some (.object "java/lang/Integer")) :: ws) ({ frames := 3, cells := 1, slots := 1, locals := 38 } : Room)) (fun a U => a = #[(.int p1)] ∧ Z.Warmed39 U.vm ∧ U.heap = h0) (fun _ _ _ _ _ => True) (fun _ U o U' => ∃ v L, o = .returned v ∧ (K_rm_vof ca cc vl Z h0 n0 p1) v U'.heap L ∧ FrameEnd U o U' L ({ frames := 3, cells := 1, slots := 1, locals := 38 } : Room).cells ({ frames := 3, cells := 1, slots := 1, locals := 38 } : Room).slots) := by
  refine own_body (plainFor_of_name pn_java_lang_Integer) ?_
  intro p e s m below meth c s₁ hx hby hml hown hnm hret hlk hZ X0 e0
  have hown : s.vm.findClass "java/lang/Integer" = some m.cls := hown
  have N0 := Fr.nil n0
  rw [ef_rm_vof m p1]
  have K0 := Keep.refl h0 []
  refine own_iloadN X0 hx (pc' := 1) rfl (hb hby d_jdk_33_method_22_code_0) rfl ?_
  refine own_bipush X0 hx (v := (-128 : Int32)) (pc' := 3) rfl (hb hby d_jdk_33_method_22_code_1) rfl ?_
  by_cases c3_1 : p1 < (-128 : Int32)
  · refine own_icmpT X0 hx (pc' := 23) (hb hby d_jdk_33_method_22_code_3) (XT.ii_lt_t c3_1) (by decide) (by decide) ?_
    refine own_new X0 hx hZ hown (hw _ (List.mem_of_getElem? (i := 53) rfl)) (hw _ (List.mem_of_getElem? (i := 54) rfl)) (hw _ (List.mem_of_getElem? (i := 45) rfl)) e0 (pc' := 26) rfl (hb hby d_jdk_33_method_22_code_23) (by decide) (by decide) ?_
    intro T2 h2 X2 e2 E2 A2 D2
    obtain ⟨o2, g2⟩ : ∃ z, z = h0.size := ⟨_, rfl⟩
    rw [← g2] at A2 D2 ⊢
    have ge2 : n0 ≤ o2 := g2 ▸ Z0
    have Siz_3 := Nat.le_trans Z0 E2.1
    have Sta_4 := Sta.ext E2 SH
    have Sta_5 := Sta.ext E2 SA
    have F6 : Fld Z h2 o2 "java/lang/Integer" "value" "I" (.int (0 : Int32)) := D2 (Or.inr (hw _ (List.mem_of_getElem? (i := 67) rfl))) (ty := .int) (by decide)
    have K2 := Keep.ext K0 E2
    refine own_dup X2 hx (pc' := 27) rfl (hb hby d_jdk_33_method_22_code_26) rfl ?_
    refine own_iloadN X2 hx (pc' := 28) rfl (hb hby d_jdk_33_method_22_code_27) rfl ?_
    refine own_callC X2 hx hZ (y := (⟨"java/lang/Integer", "<init>", "(I)V"⟩ : MethodName)) rfl hown (hw _ (List.mem_of_getElem? (i := 55) rfl)) (hw _ (List.mem_of_getElem? (i := 56) rfl)) (hw _ (List.mem_of_getElem? (i := 45) rfl)) (hw _ (List.mem_of_getElem? (i := 58) rfl))  (by decide) (rm_int l Z a0 hw [] o2 p1 h2 n0 Siz_3 A2 F6 ge2) (by decide) (W := 1) (by decide) (by decide) (by decide) e2 (by rw [hml]; rfl) (argsL := [(.int p1)]) (rest := [(.ref o2)]) rfl (lenOf pd__I_V rfl) rfl (Nat.le_of_eq rfl) (pc' := 31) rfl (hb hby d_jdk_33_method_22_code_28) ?_
    rintro _ T7 L7 X7 ⟨rfl, N7, K7, G7_0⟩
    have M7 := Fr.app N0 N7
    obtain ⟨h7, e7⟩ : ∃ z, T7.heap = z := ⟨_, rfl⟩
    rw [e7] at K7 G7_0
    have Siz_8 := Nat.le_trans Siz_3 K7.1
    have Exa_11 := A2.keep K7
    have Q7 := Keep.trans K2 K7 (by intro z hz; cases List.mem_singleton.mp hz; exact Or.inr (Nat.le_trans K0.1 (Nat.le_of_eq g2.symm)))
    show own_Goes p e below T7 (mkF m 31 #[.val (.int p1)] [(.ref o2)]) _
    refine own_aret X7 hx hlk hret rfl rfl (hb hby d_jdk_33_method_22_code_31) (by decide) (by decide) ?_
    rw [e7]
    exact ⟨o2, rfl, M7, Q7, Exa_11⟩
  · refine own_icmpF X0 hx (pc' := 6) rfl (hb hby d_jdk_33_method_22_code_3) (XT.ii_lt_f c3_1) ?_
    refine own_iloadN X0 hx (pc' := 7) rfl (hb hby d_jdk_33_method_22_code_6) rfl ?_
    refine own_getS X0 hx hZ hown (hw _ (List.mem_of_getElem? (i := 47) rfl)) Via.refl e0 SH (pc' := 10) rfl (hb hby d_jdk_33_method_22_code_7) ?_
    intro T13 X13 e13
    by_cases c10_14 : (127 : Int32) < p1
    · refine own_icmpT X13 hx (pc' := 23) (hb hby d_jdk_33_method_22_code_10) (XT.ii_gt_t c10_14) (by decide) (by decide) ?_
      refine own_new X13 hx hZ hown (hw _ (List.mem_of_getElem? (i := 53) rfl)) (hw _ (List.mem_of_getElem? (i := 54) rfl)) (hw _ (List.mem_of_getElem? (i := 45) rfl)) e13 (pc' := 26) rfl (hb hby d_jdk_33_method_22_code_23) (by decide) (by decide) ?_
      intro T15 h15 X15 e15 E15 A15 D15
      obtain ⟨o15, g15⟩ : ∃ z, z = h0.size := ⟨_, rfl⟩
      rw [← g15] at A15 D15 ⊢
      have ge15 : n0 ≤ o15 := g15 ▸ Z0
      have Siz_16 := Nat.le_trans Z0 E15.1
      have Sta_17 := Sta.ext E15 SH
      have Sta_18 := Sta.ext E15 SA
      have F19 : Fld Z h15 o15 "java/lang/Integer" "value" "I" (.int (0 : Int32)) := D15 (Or.inr (hw _ (List.mem_of_getElem? (i := 67) rfl))) (ty := .int) (by decide)
      have K15 := Keep.ext K0 E15
      refine own_dup X15 hx (pc' := 27) rfl (hb hby d_jdk_33_method_22_code_26) rfl ?_
      refine own_iloadN X15 hx (pc' := 28) rfl (hb hby d_jdk_33_method_22_code_27) rfl ?_
      refine own_callC X15 hx hZ (y := (⟨"java/lang/Integer", "<init>", "(I)V"⟩ : MethodName)) rfl hown (hw _ (List.mem_of_getElem? (i := 55) rfl)) (hw _ (List.mem_of_getElem? (i := 56) rfl)) (hw _ (List.mem_of_getElem? (i := 45) rfl)) (hw _ (List.mem_of_getElem? (i := 58) rfl))  (by decide) (rm_int l Z a0 hw [] o15 p1 h15 n0 Siz_16 A15 F19 ge15) (by decide) (W := 1) (by decide) (by decide) (by decide) e15 (by rw [hml]; rfl) (argsL := [(.int p1)]) (rest := [(.ref o15)]) rfl (lenOf pd__I_V rfl) rfl (Nat.le_of_eq rfl) (pc' := 31) rfl (hb hby d_jdk_33_method_22_code_28) ?_
      rintro _ T20 L20 X20 ⟨rfl, N20, K20, G20_0⟩
      have M20 := Fr.app N0 N20
      obtain ⟨h20, e20⟩ : ∃ z, T20.heap = z := ⟨_, rfl⟩
      rw [e20] at K20 G20_0
      have Siz_21 := Nat.le_trans Siz_16 K20.1
      have Exa_24 := A15.keep K20
      have Q20 := Keep.trans K15 K20 (by intro z hz; cases List.mem_singleton.mp hz; exact Or.inr (Nat.le_trans K0.1 (Nat.le_of_eq g15.symm)))
      show own_Goes p e below T20 (mkF m 31 #[.val (.int p1)] [(.ref o15)]) _
      refine own_aret X20 hx hlk hret rfl rfl (hb hby d_jdk_33_method_22_code_31) (by decide) (by decide) ?_
      rw [e20]
      exact ⟨o15, rfl, M20, Q20, Exa_24⟩
    · refine own_icmpF X13 hx (pc' := 13) rfl (hb hby d_jdk_33_method_22_code_10) (XT.ii_gt_f c10_14) ?_
      refine own_getS X13 hx hZ hown (hw _ (List.mem_of_getElem? (i := 49) rfl)) Via.refl e13 SA (pc' := 16) rfl (hb hby d_jdk_33_method_22_code_13) ?_
      intro T26 X26 e26
      refine own_iloadN X26 hx (pc' := 17) rfl (hb hby d_jdk_33_method_22_code_16) rfl ?_
      refine own_sipush X26 hx (v := (128 : Int32)) (pc' := 20) rfl (hb hby d_jdk_33_method_22_code_17) rfl ?_
      refine own_iadd X26 hx (v := (p1 + (128 : Int32))) (pc' := 21) rfl (hb hby d_jdk_33_method_22_code_20) rfl ?_
      have hin := own_inr BX.2.1 c3_1 c10_14
      obtain ⟨bx, hb1, hb2, hb3⟩ := BX.2.2.2 (p1 + (128 : Int32)) hin
      refine own_ldA X26 hx hZ e26 (BX.1.ext OL.2) hin hb1 (pc' := 22) rfl (hb hby d_jdk_33_method_22_code_21) ?_
      have EB := Exa.ext OL.2 hb2
      refine own_aret X26 hx hlk hret rfl rfl (hb hby d_jdk_33_method_22_code_22) (by decide) (by decide) ?_
      rw [e26]
      exact ⟨bx, rfl, N0, K0, EB⟩
theorem own_eqs (s : Int32) (g : Addr) : own_eq s s g g = 1 := by unfold own_eq; rw [if_pos rfl, if_pos rfl]
theorem own_e1 {s t : Int32} {g h : Addr} (c1 : s = t) (c2 : (Value.ref g) = (Value.ref h)) : own_eq s t g h = (1 : Int32) ∧ own_eq t s h g = (1 : Int32) := by
  subst c1; cases c2; exact ⟨own_eqs _ _, own_eqs _ _⟩
theorem own_e0 {s t : Int32} {g h : Addr} (c : ¬ (s = t ∧ (Value.ref g) = (Value.ref h))) : own_eq s t g h = (0 : Int32) ∧ own_eq t s h g = (0 : Int32) := by
  constructor
  · unfold own_eq
    by_cases a : s = t
    · rw [if_pos a, if_neg (fun b => c ⟨a, b⟩)]
    · rw [if_neg a]
  · unfold own_eq
    by_cases a : t = s
    · rw [if_pos a, if_neg (fun b => c ⟨a.symm, b.symm⟩)]
    · rw [if_neg a]
theorem ef_rm_law (m : MethodId) (p1 : Int32) (p2 : Int32) (p3 : Int32) (p4 : Int32) (p5 : Int32) : entryFrame m #[(.int p1), (.int p2), (.int p3), (.int p4), (.int p5)] maxLocals = mkF m 0 #[.val (.int p1), .val (.int p2), .val (.int p3), .val (.int p4), .val (.int p5), .unset, .unset, .unset, .unset, .unset, .unset, .unset, .unset] [] := by first | (simp [entryFrame, mkF, argsToLocals, Value.category, maxLocals]; done) | rfl
def K_rm_law (aD : Addr) (aP : Addr) (aA : Addr) (ca : Addr) (cc : Cell) (vl : Int32 → Value) (Z : State) (h0 : Heap) (n0 : Nat) (p1 : Int32) (p2 : Int32) (p3 : Int32) (p4 : Int32) (p5 : Int32) (v : Option Value) (h : Heap) (L : List Loc) : Prop := v = some (.int 1) ∧ Fr n0 L
theorem pd__I_C : parseMethodDescriptor "(I)C" = some ⟨[.int], some .char⟩ := by decide +kernel
theorem pd__I_Lcom_example_ferrule_ferrule_io_CsvLayout_Header_ : parseMethodDescriptor "(I)Lcom/example/ferrule/ferrule/io/CsvLayout$Header;" = some ⟨[.int], some (.object "com/example/ferrule/ferrule/io/CsvLayout$Header")⟩ := by decide +kernel
theorem pd__CLcom_example_ferrule_ferrule_io_CsvLayout_Header__V : parseMethodDescriptor "(CLcom/example/ferrule/ferrule/io/CsvLayout$Header;)V" = some ⟨[.char, (.object "com/example/ferrule/ferrule/io/CsvLayout$Header")], none⟩ := by decide +kernel
theorem pd__Ljava_lang_Object__Z : parseMethodDescriptor "(Ljava/lang/Object;)Z" = some ⟨[(.object "java/lang/Object")], some .boolean⟩ := by decide +kernel
theorem pd__I_Ljava_lang_Integer_ : parseMethodDescriptor "(I)Ljava/lang/Integer;" = some ⟨[.int], some (.object "java/lang/Integer")⟩ := by decide +kernel
set_option maxRecDepth 65536 in
set_option maxHeartbeats 40000000 in
theorem rm_law (l : Launch) (Z : State) (a0 : Array Value) (hw : ∀ d ∈ tables_1, d.before a0 Z = true) (ws : List Jvm.Cond) (aD : Addr) (aP : Addr) (aA : Addr) (ca : Addr) (cc : Cell) (vl : Int32 → Value) (p1 : Int32) (p2 : Int32) (p3 : Int32) (p4 : Int32) (p5 : Int32) (h0 : Heap) (n0 : Nat) (Z0 : n0 ≤ h0.size) (SD : Sta Z h0 "com/example/ferrule/ferrule/io/CsvLayout$Header" "DETECTED" "Lcom/example/ferrule/ferrule/io/CsvLayout$Header;" (.ref aD)) (SP : Sta Z h0 "com/example/ferrule/ferrule/io/CsvLayout$Header" "PRESENT" "Lcom/example/ferrule/ferrule/io/CsvLayout$Header;" (.ref aP)) (SB : Sta Z h0 "com/example/ferrule/ferrule/io/CsvLayout$Header" "ABSENT" "Lcom/example/ferrule/ferrule/io/CsvLayout$Header;" (.ref aA)) (OL : Old Z n0 h0) (SH : Sta Z Z.heap "java/lang/Integer$IntegerCache" "high" "I" (.int (127 : Int32))) (SA : Sta Z Z.heap "java/lang/Integer$IntegerCache" "cache" "[Ljava/lang/Integer;" (.ref ca)) (BX : Bxs Z ca cc "java/lang/Integer" "I" (256 : Int32) vl) :
    MetFree l x (head1 (Jvm.Cond.code x code maxLocals ret :: ws) room_1) (fun a U => a = #[(.int p1), (.int p2), (.int p3), (.int p4), (.int p5)] ∧ Z.Warmed39 U.vm ∧ U.heap = h0) (fun _ _ _ _ _ => True) (fun _ U o U' => ∃ v L, o = .returned v ∧ (K_rm_law aD aP aA ca cc vl Z h0 n0 p1 p2 p3 p4 p5) v U'.heap L ∧ FrameEnd U o U' L room_1.cells room_1.slots) := by
  refine own_body (plainFor_of_name pn_com_example_ferrule_ferrule_io_CsvLayoutEqualsPinLaw) ?_
  intro p e s m below meth c s₁ hx hby hml hown hnm hret hlk hZ X0 e0
  have hown : s.vm.findClass "com/example/ferrule/ferrule/io/CsvLayoutEqualsPinLaw" = some m.cls := hown
  have N0 := Fr.nil n0
  rw [ef_rm_law m p1 p2 p3 p4 p5]
  refine own_iloadN X0 hx (pc' := 1) rfl (hb hby at_0) rfl ?_
  refine own_callS X0 hx hZ (y := (⟨"com/example/ferrule/ferrule/io/CsvLayoutEqualsPinLaw", "sep", "(I)C"⟩ : MethodName)) hown (hw _ (List.mem_of_getElem? (i := 0) rfl)) (hw _ (List.mem_of_getElem? (i := 1) rfl)) (hw _ (List.mem_of_getElem? (i := 2) rfl)) (hw _ (List.mem_of_getElem? (i := 3) rfl))  (by decide) (rm_sep l Z a0 hw [] p1 h0 n0 Z0) (by decide) (W := 0) (by decide) (by decide) (by decide) e0 (by rw [hml]; rfl) (argsL := [(.int p1)]) (rest := []) rfl (lenOf pd__I_C rfl) rfl (Nat.le_of_eq rfl) (pc' := 4) rfl (hb hby at_1) ?_
  rintro _ T1 L1 X1 ⟨rfl, N1, e1⟩
  have M1 := Fr.app N0 N1
  show own_Goes p e below T1 (mkF m 4 #[.val (.int p1), .val (.int p2), .val (.int p3), .val (.int p4), .val (.int p5), .unset, .unset, .unset, .unset, .unset, .unset, .unset, .unset] [(.int (own_sep p1))]) _
  have hs1 := own_sepP p1
  generalize (own_sep p1) = s1 at hs1 ⊢
  refine own_istore X1 hx (Ls' := #[.val (.int p1), .val (.int p2), .val (.int p3), .val (.int p4), .val (.int p5), .val (.int s1), .unset, .unset, .unset, .unset, .unset, .unset, .unset]) (pc' := 6) rfl (hb hby at_4) rfl ?_
  refine own_iload X1 hx (pc' := 8) rfl (hb hby at_6) rfl ?_
  refine own_iconst X1 hx (v := (4 : Int32)) (pc' := 9) rfl (hb hby at_8) rfl ?_
  refine own_iand X1 hx (v := (p5 &&& (4 : Int32))) (pc' := 10) rfl (hb hby at_9) rfl ?_
  by_cases c10_2 : (p5 &&& (4 : Int32)) = 0
  · refine own_ifF X1 hx (pc' := 13) rfl (hb hby at_10) (XT.i0_ne_f c10_2) ?_
    refine own_iload X1 hx (pc' := 15) rfl (hb hby at_13) rfl ?_
    refine own_goto X1 hx (pc' := 22) (hb hby at_15) (by decide) (by decide) ?_
    refine own_istore X1 hx (Ls' := #[.val (.int p1), .val (.int p2), .val (.int p3), .val (.int p4), .val (.int p5), .val (.int s1), .val (.int s1), .unset, .unset, .unset, .unset, .unset, .unset]) (pc' := 24) rfl (hb hby at_22) rfl ?_
    refine own_iloadN X1 hx (pc' := 25) rfl (hb hby at_24) rfl ?_
    refine own_callS X1 hx hZ (y := (⟨"com/example/ferrule/ferrule/io/CsvLayoutEqualsPinLaw", "header", "(I)Lcom/example/ferrule/ferrule/io/CsvLayout$Header;"⟩ : MethodName)) hown (hw _ (List.mem_of_getElem? (i := 4) rfl)) (hw _ (List.mem_of_getElem? (i := 5) rfl)) (hw _ (List.mem_of_getElem? (i := 2) rfl)) (hw _ (List.mem_of_getElem? (i := 6) rfl))  (by decide) (rm_hdr l Z a0 hw [] aD aP aA p3 h0 n0 Z0 SD SP SB) (by decide) (W := 0) (by decide) (by decide) (by decide) e1 (by rw [hml]; rfl) (argsL := [(.int p3)]) (rest := []) rfl (lenOf pd__I_Lcom_example_ferrule_ferrule_io_CsvLayout_Header_ rfl) rfl (Nat.le_of_eq rfl) (pc' := 28) rfl (hb hby at_25) ?_
    rintro _ T3 L3 X3 ⟨rfl, N3, e3⟩
    have M3 := Fr.app M1 N3
    show own_Goes p e below T3 (mkF m 28 #[.val (.int p1), .val (.int p2), .val (.int p3), .val (.int p4), .val (.int p5), .val (.int s1), .val (.int s1), .unset, .unset, .unset, .unset, .unset, .unset] [(.ref (own_hdr p3 aD aP aA))]) _
    generalize (own_hdr p3 aD aP aA) = x1
    refine own_astore X3 hx (Ls' := #[.val (.int p1), .val (.int p2), .val (.int p3), .val (.int p4), .val (.int p5), .val (.int s1), .val (.int s1), .val (.ref x1), .unset, .unset, .unset, .unset, .unset]) (pc' := 30) rfl (hb hby at_28) rfl rfl ?_
    refine own_iloadN X3 hx (pc' := 31) rfl (hb hby at_30) rfl ?_
    refine own_callS X3 hx hZ (y := (⟨"com/example/ferrule/ferrule/io/CsvLayoutEqualsPinLaw", "header", "(I)Lcom/example/ferrule/ferrule/io/CsvLayout$Header;"⟩ : MethodName)) hown (hw _ (List.mem_of_getElem? (i := 4) rfl)) (hw _ (List.mem_of_getElem? (i := 5) rfl)) (hw _ (List.mem_of_getElem? (i := 2) rfl)) (hw _ (List.mem_of_getElem? (i := 6) rfl))  (by decide) (rm_hdr l Z a0 hw [] aD aP aA p4 h0 n0 Z0 SD SP SB) (by decide) (W := 0) (by decide) (by decide) (by decide) e3 (by rw [hml]; rfl) (argsL := [(.int p4)]) (rest := []) rfl (lenOf pd__I_Lcom_example_ferrule_ferrule_io_CsvLayout_Header_ rfl) rfl (Nat.le_of_eq rfl) (pc' := 34) rfl (hb hby at_31) ?_
    rintro _ T4 L4 X4 ⟨rfl, N4, e4⟩
    have M4 := Fr.app M3 N4
    show own_Goes p e below T4 (mkF m 34 #[.val (.int p1), .val (.int p2), .val (.int p3), .val (.int p4), .val (.int p5), .val (.int s1), .val (.int s1), .val (.ref x1), .unset, .unset, .unset, .unset, .unset] [(.ref (own_hdr p4 aD aP aA))]) _
    generalize (own_hdr p4 aD aP aA) = x2
    refine own_astore X4 hx (Ls' := #[.val (.int p1), .val (.int p2), .val (.int p3), .val (.int p4), .val (.int p5), .val (.int s1), .val (.int s1), .val (.ref x1), .val (.ref x2), .unset, .unset, .unset, .unset]) (pc' := 36) rfl (hb hby at_34) rfl rfl ?_
    refine own_new X4 hx hZ hown (hw _ (List.mem_of_getElem? (i := 13) rfl)) (hw _ (List.mem_of_getElem? (i := 14) rfl)) (hw _ (List.mem_of_getElem? (i := 15) rfl)) e4 (pc' := 39) rfl (hb hby at_36) (by decide) (by decide) ?_
    intro T5 h5 X5 e5 E5 A5 D5
    obtain ⟨o5, g5⟩ : ∃ z, z = h0.size := ⟨_, rfl⟩
    rw [← g5] at A5 D5 ⊢
    have ge5 : n0 ≤ o5 := g5 ▸ Z0
    have Siz_6 := Nat.le_trans Z0 E5.1
    have Sta_7 := Sta.ext E5 SD
    have Sta_8 := Sta.ext E5 SP
    have Sta_9 := Sta.ext E5 SB
    have Old_10 := Old.ext OL E5
    have F13 : Fld Z h5 o5 "com/example/ferrule/ferrule/io/CsvLayout" "separator" "C" (.int (0 : Int32)) := D5 (Or.inr (hw _ (List.mem_of_getElem? (i := 31) rfl))) (ty := .char) (by decide)
    have F14 : Fld Z h5 o5 "com/example/ferrule/ferrule/io/CsvLayout" "header" "Lcom/example/ferrule/ferrule/io/CsvLayout$Header;" .null := D5 (Or.inr (hw _ (List.mem_of_getElem? (i := 33) rfl))) (ty := (.object "com/example/ferrule/ferrule/io/CsvLayout$Header")) (by decide)
    refine own_dup X5 hx (pc' := 40) rfl (hb hby at_39) rfl ?_
    refine own_iload X5 hx (pc' := 42) rfl (hb hby at_40) rfl ?_
    refine own_aload X5 hx (pc' := 44) rfl (hb hby at_42) rfl rfl ?_
    refine own_callC X5 hx hZ (y := (⟨"com/example/ferrule/ferrule/io/CsvLayout", "<init>", "(CLcom/example/ferrule/ferrule/io/CsvLayout$Header;)V"⟩ : MethodName)) rfl hown (hw _ (List.mem_of_getElem? (i := 16) rfl)) (hw _ (List.mem_of_getElem? (i := 17) rfl)) (hw _ (List.mem_of_getElem? (i := 15) rfl)) (hw _ (List.mem_of_getElem? (i := 18) rfl))  (by decide) (rm_csv l Z a0 hw [] o5 s1 x1 h5 n0 Siz_6 A5 F13 F14 ge5 hs1) (by decide) (W := 1) (by decide) (by decide) (by decide) e5 (by rw [hml]; rfl) (argsL := [(.int s1), (.ref x1)]) (rest := [(.ref o5)]) rfl (lenOf pd__CLcom_example_ferrule_ferrule_io_CsvLayout_Header__V rfl) rfl (Nat.le_of_eq rfl) (pc' := 47) rfl (hb hby at_44) ?_
    rintro _ T15 L15 X15 ⟨rfl, N15, K15, G15_0, G15_1, G15_2⟩
    have M15 := Fr.app M4 N15
    obtain ⟨h15, e15⟩ : ∃ z, T15.heap = z := ⟨_, rfl⟩
    rw [e15] at K15 G15_0 G15_1 G15_2
    have Siz_16 := Nat.le_trans Siz_6 K15.1
    have Old_20 := Old_10.keep K15 (allS ge5 all0)
    have Exa_23 := A5.keep K15
    show own_Goes p e below T15 (mkF m 47 #[.val (.int p1), .val (.int p2), .val (.int p3), .val (.int p4), .val (.int p5), .val (.int s1), .val (.int s1), .val (.ref x1), .val (.ref x2), .unset, .unset, .unset, .unset] [(.ref o5)]) _
    refine own_astore X15 hx (Ls' := #[.val (.int p1), .val (.int p2), .val (.int p3), .val (.int p4), .val (.int p5), .val (.int s1), .val (.int s1), .val (.ref x1), .val (.ref x2), .val (.ref o5), .unset, .unset, .unset]) (pc' := 49) rfl (hb hby at_47) rfl rfl ?_
    refine own_new X15 hx hZ hown (hw _ (List.mem_of_getElem? (i := 13) rfl)) (hw _ (List.mem_of_getElem? (i := 14) rfl)) (hw _ (List.mem_of_getElem? (i := 15) rfl)) e15 (pc' := 52) rfl (hb hby at_49) (by decide) (by decide) ?_
    intro T26 h26 X26 e26 E26 A26 D26
    obtain ⟨o26, g26⟩ : ∃ z, z = h15.size := ⟨_, rfl⟩
    rw [← g26] at A26 D26 ⊢
    have ne26_o5 : o5 ≠ o26 := Nat.ne_of_lt (g26 ▸ Exa_23.lt)
    have ge26 : n0 ≤ o26 := g26 ▸ Siz_16
    have Siz_27 := Nat.le_trans Siz_16 E26.1
    have Old_28 := Old.ext Old_20 E26
    have Exa_31 := Exa.ext E26 Exa_23
    have Exa_32 := Exa.ext E26 G15_0
    have Fld_33 := Fld.ext E26 G15_1
    have Fld_34 := Fld.ext E26 G15_2
    have F35 : Fld Z h26 o26 "com/example/ferrule/ferrule/io/CsvLayout" "separator" "C" (.int (0 : Int32)) := D26 (Or.inr (hw _ (List.mem_of_getElem? (i := 31) rfl))) (ty := .char) (by decide)
    have F36 : Fld Z h26 o26 "com/example/ferrule/ferrule/io/CsvLayout" "header" "Lcom/example/ferrule/ferrule/io/CsvLayout$Header;" .null := D26 (Or.inr (hw _ (List.mem_of_getElem? (i := 33) rfl))) (ty := (.object "com/example/ferrule/ferrule/io/CsvLayout$Header")) (by decide)
    refine own_dup X26 hx (pc' := 53) rfl (hb hby at_52) rfl ?_
    refine own_iload X26 hx (pc' := 55) rfl (hb hby at_53) rfl ?_
    refine own_aload X26 hx (pc' := 57) rfl (hb hby at_55) rfl rfl ?_
    refine own_callC X26 hx hZ (y := (⟨"com/example/ferrule/ferrule/io/CsvLayout", "<init>", "(CLcom/example/ferrule/ferrule/io/CsvLayout$Header;)V"⟩ : MethodName)) rfl hown (hw _ (List.mem_of_getElem? (i := 16) rfl)) (hw _ (List.mem_of_getElem? (i := 17) rfl)) (hw _ (List.mem_of_getElem? (i := 15) rfl)) (hw _ (List.mem_of_getElem? (i := 18) rfl))  (by decide) (rm_csv l Z a0 hw [] o26 s1 x2 h26 n0 Siz_27 A26 F35 F36 ge26 hs1) (by decide) (W := 1) (by decide) (by decide) (by decide) e26 (by rw [hml]; rfl) (argsL := [(.int s1), (.ref x2)]) (rest := [(.ref o26)]) rfl (lenOf pd__CLcom_example_ferrule_ferrule_io_CsvLayout_Header__V rfl) rfl (Nat.le_of_eq rfl) (pc' := 60) rfl (hb hby at_57) ?_
    rintro _ T37 L37 X37 ⟨rfl, N37, K37, G37_0, G37_1, G37_2⟩
    have M37 := Fr.app M15 N37
    obtain ⟨h37, e37⟩ : ∃ z, T37.heap = z := ⟨_, rfl⟩
    rw [e37] at K37 G37_0 G37_1 G37_2
    have Siz_38 := Nat.le_trans Siz_27 K37.1
    have Old_39 := Old_28.keep K37 (allS ge26 all0)
    have Exa_42 := Exa_31.keep K37
    have Exa_43 := Exa_32.keep K37
    have Fld_44 := Fld_33.keep K37 (ninS ne26_o5 nin0)
    have Fld_45 := Fld_34.keep K37 (ninS ne26_o5 nin0)
    have Exa_46 := A26.keep K37
    show own_Goes p e below T37 (mkF m 60 #[.val (.int p1), .val (.int p2), .val (.int p3), .val (.int p4), .val (.int p5), .val (.int s1), .val (.int s1), .val (.ref x1), .val (.ref x2), .val (.ref o5), .unset, .unset, .unset] [(.ref o26)]) _
    refine own_astore X37 hx (Ls' := #[.val (.int p1), .val (.int p2), .val (.int p3), .val (.int p4), .val (.int p5), .val (.int s1), .val (.int s1), .val (.ref x1), .val (.ref x2), .val (.ref o5), .val (.ref o26), .unset, .unset]) (pc' := 62) rfl (hb hby at_60) rfl rfl ?_
    refine own_iload X37 hx (pc' := 64) rfl (hb hby at_62) rfl ?_
    refine own_iconst X37 hx (v := (3 : Int32)) (pc' := 65) rfl (hb hby at_64) rfl ?_
    refine own_iand X37 hx (v := (p5 &&& (3 : Int32))) (pc' := 66) rfl (hb hby at_65) rfl ?_
    refine own_istore X37 hx (Ls' := #[.val (.int p1), .val (.int p2), .val (.int p3), .val (.int p4), .val (.int p5), .val (.int s1), .val (.int s1), .val (.ref x1), .val (.ref x2), .val (.ref o5), .val (.ref o26), .val (.int (p5 &&& (3 : Int32))), .unset]) (pc' := 68) rfl (hb hby at_66) rfl ?_
    refine own_iload X37 hx (pc' := 70) rfl (hb hby at_68) rfl ?_
    refine own_iconst X37 hx (v := (1 : Int32)) (pc' := 71) rfl (hb hby at_70) rfl ?_
    by_cases c71_49 : (p5 &&& (3 : Int32)) = (1 : Int32)
    · refine own_icmpF X37 hx (pc' := 74) rfl (hb hby at_71) (XT.ii_ne_f c71_49) ?_
      refine own_aload X37 hx (pc' := 76) rfl (hb hby at_74) rfl rfl ?_
      refine own_anull X37 hx (pc' := 77) rfl (hb hby at_76) ?_
      refine own_callV X37 hx hZ (y := (⟨"com/example/ferrule/ferrule/io/CsvLayout", "equals", "(Ljava/lang/Object;)Z"⟩ : MethodName)) hown (hw _ (List.mem_of_getElem? (i := 34) rfl)) (hw _ (List.mem_of_getElem? (i := 35) rfl)) (hw _ (List.mem_of_getElem? (i := 37) rfl)) (hw _ (List.mem_of_getElem? (i := 36) rfl)) (hw _ (List.mem_of_getElem? (i := 15) rfl)) (hw _ (List.mem_of_getElem? (i := 38) rfl)) Exa_42  (by decide) (rm_eqN l Z a0 hw [] o5 h37 n0 Siz_38 Exa_42) (by decide) (W := 0) (by decide) (by decide) (by decide) e37 (by rw [hml]; rfl) (argsL := [.null]) (rest := []) rfl (lenOf pd__Ljava_lang_Object__Z rfl) rfl (Nat.le_of_eq rfl) (pc' := 80) rfl (hb hby at_77) ?_
      rintro _ T50 L50 X50 ⟨rfl, N50, e50⟩
      have M50 := Fr.app M37 N50
      show own_Goes p e below T50 (mkF m 80 #[.val (.int p1), .val (.int p2), .val (.int p3), .val (.int p4), .val (.int p5), .val (.int s1), .val (.int s1), .val (.ref x1), .val (.ref x2), .val (.ref o5), .val (.ref o26), .val (.int (p5 &&& (3 : Int32))), .unset] [(.int (0 : Int32))]) _
      refine own_ifF X50 hx (pc' := 83) rfl (hb hby at_80) (XT.i0_ne_f (by decide)) ?_
      refine own_iconst X50 hx (v := (1 : Int32)) (pc' := 84) rfl (hb hby at_83) rfl ?_
      refine own_goto X50 hx (pc' := 88) (hb hby at_84) (by decide) (by decide) ?_
      refine own_zret X50 hx hlk hret (by simp) (hb hby at_88) (by decide) (by decide) ?_
      rw [e50]
      exact ⟨rfl, M50⟩
    · refine own_icmpT X37 hx (pc' := 89) (hb hby at_71) (XT.ii_ne_t c71_49) (by decide) (by decide) ?_
      refine own_iload X37 hx (pc' := 91) rfl (hb hby at_89) rfl ?_
      refine own_iconst X37 hx (v := (2 : Int32)) (pc' := 92) rfl (hb hby at_91) rfl ?_
      by_cases c92_51 : (p5 &&& (3 : Int32)) = (2 : Int32)
      · refine own_icmpF X37 hx (pc' := 95) rfl (hb hby at_92) (XT.ii_ne_f c92_51) ?_
        refine own_aload X37 hx (pc' := 97) rfl (hb hby at_95) rfl rfl ?_
        refine own_iloadN X37 hx (pc' := 98) rfl (hb hby at_97) rfl ?_
        refine own_callS X37 hx hZ (y := (⟨"java/lang/Integer", "valueOf", "(I)Ljava/lang/Integer;"⟩ : MethodName)) hown (hw _ (List.mem_of_getElem? (i := 43) rfl)) (hw _ (List.mem_of_getElem? (i := 44) rfl)) (hw _ (List.mem_of_getElem? (i := 45) rfl)) (hw _ (List.mem_of_getElem? (i := 46) rfl))  (by decide) (rm_vof l Z a0 hw [] ca cc vl p1 h37 n0 Siz_38 (Sta.ext Old_39.2 SH) (Sta.ext Old_39.2 SA) Old_39 BX) (by decide) (W := 1) (by decide) (by decide) (by decide) e37 (by rw [hml]; rfl) (argsL := [(.int p1)]) (rest := [(.ref o5)]) rfl (lenOf pd__I_Ljava_lang_Integer_ rfl) rfl (Nat.le_of_eq rfl) (pc' := 101) rfl (hb hby at_98) ?_
        rintro _ T52 L52 X52 ⟨r52, rfl, N52, K52, A52⟩
        have M52 := Fr.app M37 N52
        obtain ⟨h52, e52⟩ : ∃ z, T52.heap = z := ⟨_, rfl⟩
        rw [e52] at K52 A52
        have Siz_53 := Nat.le_trans Siz_38 K52.1
        have Old_54 := Old_39.keep K52 all0
        have Exa_57 := Exa_42.keep K52
        have Exa_58 := Exa_43.keep K52
        have Fld_59 := Fld_44.keep K52 nin0
        have Fld_60 := Fld_45.keep K52 nin0
        have Exa_61 := Exa_46.keep K52
        have Exa_62 := G37_0.keep K52
        have Fld_63 := G37_1.keep K52 nin0
        have Fld_64 := G37_2.keep K52 nin0
        show own_Goes p e below T52 (mkF m 101 #[.val (.int p1), .val (.int p2), .val (.int p3), .val (.int p4), .val (.int p5), .val (.int s1), .val (.int s1), .val (.ref x1), .val (.ref x2), .val (.ref o5), .val (.ref o26), .val (.int (p5 &&& (3 : Int32))), .unset] [(.ref r52), (.ref o5)]) _
        refine own_callV X52 hx hZ (y := (⟨"com/example/ferrule/ferrule/io/CsvLayout", "equals", "(Ljava/lang/Object;)Z"⟩ : MethodName)) hown (hw _ (List.mem_of_getElem? (i := 34) rfl)) (hw _ (List.mem_of_getElem? (i := 35) rfl)) (hw _ (List.mem_of_getElem? (i := 37) rfl)) (hw _ (List.mem_of_getElem? (i := 36) rfl)) (hw _ (List.mem_of_getElem? (i := 15) rfl)) (hw _ (List.mem_of_getElem? (i := 38) rfl)) Exa_57  (by decide) (rm_eqI l Z a0 hw [] o5 r52 h52 n0 Siz_53 Exa_57 A52) (by decide) (W := 0) (by decide) (by decide) (by decide) e52 (by rw [hml]; rfl) (argsL := [(.ref r52)]) (rest := []) rfl (lenOf pd__Ljava_lang_Object__Z rfl) rfl (Nat.le_of_eq rfl) (pc' := 104) rfl (hb hby at_101) ?_
        rintro _ T65 L65 X65 ⟨rfl, N65, e65⟩
        have M65 := Fr.app M52 N65
        show own_Goes p e below T65 (mkF m 104 #[.val (.int p1), .val (.int p2), .val (.int p3), .val (.int p4), .val (.int p5), .val (.int s1), .val (.int s1), .val (.ref x1), .val (.ref x2), .val (.ref o5), .val (.ref o26), .val (.int (p5 &&& (3 : Int32))), .unset] [(.int (0 : Int32))]) _
        refine own_ifF X65 hx (pc' := 107) rfl (hb hby at_104) (XT.i0_ne_f (by decide)) ?_
        refine own_iconst X65 hx (v := (1 : Int32)) (pc' := 108) rfl (hb hby at_107) rfl ?_
        refine own_goto X65 hx (pc' := 112) (hb hby at_108) (by decide) (by decide) ?_
        refine own_zret X65 hx hlk hret (by simp) (hb hby at_112) (by decide) (by decide) ?_
        rw [e65]
        exact ⟨rfl, M65⟩
      · refine own_icmpT X37 hx (pc' := 113) (hb hby at_92) (XT.ii_ne_t c92_51) (by decide) (by decide) ?_
        refine own_iload X37 hx (pc' := 115) rfl (hb hby at_113) rfl ?_
        refine own_iconst X37 hx (v := (3 : Int32)) (pc' := 116) rfl (hb hby at_115) rfl ?_
        by_cases c116_66 : (p5 &&& (3 : Int32)) = (3 : Int32)
        · refine own_icmpF X37 hx (pc' := 119) rfl (hb hby at_116) (XT.ii_ne_f c116_66) ?_
          refine own_aload X37 hx (pc' := 121) rfl (hb hby at_119) rfl rfl ?_
          refine own_aload X37 hx (pc' := 123) rfl (hb hby at_121) rfl rfl ?_
          refine own_callV X37 hx hZ (y := (⟨"com/example/ferrule/ferrule/io/CsvLayout", "equals", "(Ljava/lang/Object;)Z"⟩ : MethodName)) hown (hw _ (List.mem_of_getElem? (i := 34) rfl)) (hw _ (List.mem_of_getElem? (i := 35) rfl)) (hw _ (List.mem_of_getElem? (i := 37) rfl)) (hw _ (List.mem_of_getElem? (i := 36) rfl)) (hw _ (List.mem_of_getElem? (i := 15) rfl)) (hw _ (List.mem_of_getElem? (i := 38) rfl)) Exa_42  (by decide) (rm_eqC l Z a0 hw [] s1 x1 s1 x1 o5 o5 h37 n0 Siz_38 Exa_42 Fld_44 Fld_45 Exa_42 Fld_44 Fld_45) (by decide) (W := 0) (by decide) (by decide) (by decide) e37 (by rw [hml]; rfl) (argsL := [(.ref o5)]) (rest := []) rfl (lenOf pd__Ljava_lang_Object__Z rfl) rfl (Nat.le_of_eq rfl) (pc' := 126) rfl (hb hby at_123) ?_
          rintro _ T67 L67 X67 ⟨rfl, N67, e67⟩
          have M67 := Fr.app M37 N67
          show own_Goes p e below T67 (mkF m 126 #[.val (.int p1), .val (.int p2), .val (.int p3), .val (.int p4), .val (.int p5), .val (.int s1), .val (.int s1), .val (.ref x1), .val (.ref x2), .val (.ref o5), .val (.ref o26), .val (.int (p5 &&& (3 : Int32))), .unset] [(.int (own_eq s1 s1 x1 x1))]) _
          refine own_zret X67 hx hlk hret (by simp) (hb hby at_126) (by decide) (by decide) ?_
          rw [e67]
          exact ⟨by rw [own_eqs]; rfl, M67⟩
        · refine own_icmpT X37 hx (pc' := 127) (hb hby at_116) (XT.ii_ne_t c116_66) (by decide) (by decide) ?_
          refine own_iload X37 hx (pc' := 129) rfl (hb hby at_127) rfl ?_
          refine own_iload X37 hx (pc' := 131) rfl (hb hby at_129) rfl ?_
          by_cases c131_68 : s1 = s1
          · refine own_icmpF X37 hx (pc' := 134) rfl (hb hby at_131) (XT.ii_ne_f c131_68) ?_
            refine own_aload X37 hx (pc' := 136) rfl (hb hby at_134) rfl rfl ?_
            refine own_aload X37 hx (pc' := 138) rfl (hb hby at_136) rfl rfl ?_
            by_cases c138_69 : (Value.ref x1) = (Value.ref x2)
            · refine own_acmpF X37 hx (pc' := 141) rfl (hb hby at_138) rfl rfl (XT.aa_ne_f c138_69) ?_
              refine own_iconst X37 hx (v := (1 : Int32)) (pc' := 142) rfl (hb hby at_141) rfl ?_
              refine own_goto X37 hx (pc' := 146) (hb hby at_142) (by decide) (by decide) ?_
              refine own_istore X37 hx (Ls' := #[.val (.int p1), .val (.int p2), .val (.int p3), .val (.int p4), .val (.int p5), .val (.int s1), .val (.int s1), .val (.ref x1), .val (.ref x2), .val (.ref o5), .val (.ref o26), .val (.int (p5 &&& (3 : Int32))), .val (.int (1 : Int32))]) (pc' := 148) rfl (hb hby at_146) rfl ?_
              refine own_aload X37 hx (pc' := 150) rfl (hb hby at_148) rfl rfl ?_
              refine own_aload X37 hx (pc' := 152) rfl (hb hby at_150) rfl rfl ?_
              refine own_callV X37 hx hZ (y := (⟨"com/example/ferrule/ferrule/io/CsvLayout", "equals", "(Ljava/lang/Object;)Z"⟩ : MethodName)) hown (hw _ (List.mem_of_getElem? (i := 34) rfl)) (hw _ (List.mem_of_getElem? (i := 35) rfl)) (hw _ (List.mem_of_getElem? (i := 37) rfl)) (hw _ (List.mem_of_getElem? (i := 36) rfl)) (hw _ (List.mem_of_getElem? (i := 15) rfl)) (hw _ (List.mem_of_getElem? (i := 38) rfl)) Exa_42  (by decide) (rm_eqC l Z a0 hw [] s1 x1 s1 x2 o5 o26 h37 n0 Siz_38 Exa_42 Fld_44 Fld_45 Exa_46 G37_1 G37_2) (by decide) (W := 0) (by decide) (by decide) (by decide) e37 (by rw [hml]; rfl) (argsL := [(.ref o26)]) (rest := []) rfl (lenOf pd__Ljava_lang_Object__Z rfl) rfl (Nat.le_of_eq rfl) (pc' := 155) rfl (hb hby at_152) ?_
              rintro _ T70 L70 X70 ⟨rfl, N70, e70⟩
              have M70 := Fr.app M37 N70
              show own_Goes p e below T70 (mkF m 155 #[.val (.int p1), .val (.int p2), .val (.int p3), .val (.int p4), .val (.int p5), .val (.int s1), .val (.int s1), .val (.ref x1), .val (.ref x2), .val (.ref o5), .val (.ref o26), .val (.int (p5 &&& (3 : Int32))), .val (.int (1 : Int32))] [(.int (own_eq s1 s1 x1 x2))]) _
              refine own_iload X70 hx (pc' := 157) rfl (hb hby at_155) rfl ?_
              refine own_icmpF X70 hx (pc' := 160) rfl (hb hby at_157) (XT.ii_ne_f (own_e1 c131_68 c138_69).1) ?_
              refine own_aload X70 hx (pc' := 162) rfl (hb hby at_160) rfl rfl ?_
              refine own_aload X70 hx (pc' := 164) rfl (hb hby at_162) rfl rfl ?_
              refine own_callV X70 hx hZ (y := (⟨"com/example/ferrule/ferrule/io/CsvLayout", "equals", "(Ljava/lang/Object;)Z"⟩ : MethodName)) hown (hw _ (List.mem_of_getElem? (i := 34) rfl)) (hw _ (List.mem_of_getElem? (i := 35) rfl)) (hw _ (List.mem_of_getElem? (i := 37) rfl)) (hw _ (List.mem_of_getElem? (i := 36) rfl)) (hw _ (List.mem_of_getElem? (i := 15) rfl)) (hw _ (List.mem_of_getElem? (i := 38) rfl)) Exa_46  (by decide) (rm_eqC l Z a0 hw [] s1 x2 s1 x1 o26 o5 h37 n0 Siz_38 Exa_46 G37_1 G37_2 Exa_42 Fld_44 Fld_45) (by decide) (W := 0) (by decide) (by decide) (by decide) e70 (by rw [hml]; rfl) (argsL := [(.ref o5)]) (rest := []) rfl (lenOf pd__Ljava_lang_Object__Z rfl) rfl (Nat.le_of_eq rfl) (pc' := 167) rfl (hb hby at_164) ?_
              rintro _ T71 L71 X71 ⟨rfl, N71, e71⟩
              have M71 := Fr.app M70 N71
              show own_Goes p e below T71 (mkF m 167 #[.val (.int p1), .val (.int p2), .val (.int p3), .val (.int p4), .val (.int p5), .val (.int s1), .val (.int s1), .val (.ref x1), .val (.ref x2), .val (.ref o5), .val (.ref o26), .val (.int (p5 &&& (3 : Int32))), .val (.int (1 : Int32))] [(.int (own_eq s1 s1 x2 x1))]) _
              refine own_iload X71 hx (pc' := 169) rfl (hb hby at_167) rfl ?_
              refine own_icmpF X71 hx (pc' := 172) rfl (hb hby at_169) (XT.ii_ne_f (own_e1 c131_68 c138_69).2) ?_
              refine own_iconst X71 hx (v := (1 : Int32)) (pc' := 173) rfl (hb hby at_172) rfl ?_
              refine own_goto X71 hx (pc' := 177) (hb hby at_173) (by decide) (by decide) ?_
              refine own_zret X71 hx hlk hret (by simp) (hb hby at_177) (by decide) (by decide) ?_
              rw [e71]
              exact ⟨rfl, M71⟩
            · refine own_acmpT X37 hx (pc' := 145) (hb hby at_138) rfl rfl (XT.aa_ne_t c138_69) (by decide) (by decide) ?_
              refine own_iconst X37 hx (v := (0 : Int32)) (pc' := 146) rfl (hb hby at_145) rfl ?_
              refine own_istore X37 hx (Ls' := #[.val (.int p1), .val (.int p2), .val (.int p3), .val (.int p4), .val (.int p5), .val (.int s1), .val (.int s1), .val (.ref x1), .val (.ref x2), .val (.ref o5), .val (.ref o26), .val (.int (p5 &&& (3 : Int32))), .val (.int (0 : Int32))]) (pc' := 148) rfl (hb hby at_146) rfl ?_
              refine own_aload X37 hx (pc' := 150) rfl (hb hby at_148) rfl rfl ?_
              refine own_aload X37 hx (pc' := 152) rfl (hb hby at_150) rfl rfl ?_
              refine own_callV X37 hx hZ (y := (⟨"com/example/ferrule/ferrule/io/CsvLayout", "equals", "(Ljava/lang/Object;)Z"⟩ : MethodName)) hown (hw _ (List.mem_of_getElem? (i := 34) rfl)) (hw _ (List.mem_of_getElem? (i := 35) rfl)) (hw _ (List.mem_of_getElem? (i := 37) rfl)) (hw _ (List.mem_of_getElem? (i := 36) rfl)) (hw _ (List.mem_of_getElem? (i := 15) rfl)) (hw _ (List.mem_of_getElem? (i := 38) rfl)) Exa_42  (by decide) (rm_eqC l Z a0 hw [] s1 x1 s1 x2 o5 o26 h37 n0 Siz_38 Exa_42 Fld_44 Fld_45 Exa_46 G37_1 G37_2) (by decide) (W := 0) (by decide) (by decide) (by decide) e37 (by rw [hml]; rfl) (argsL := [(.ref o26)]) (rest := []) rfl (lenOf pd__Ljava_lang_Object__Z rfl) rfl (Nat.le_of_eq rfl) (pc' := 155) rfl (hb hby at_152) ?_
              rintro _ T72 L72 X72 ⟨rfl, N72, e72⟩
              have M72 := Fr.app M37 N72
              show own_Goes p e below T72 (mkF m 155 #[.val (.int p1), .val (.int p2), .val (.int p3), .val (.int p4), .val (.int p5), .val (.int s1), .val (.int s1), .val (.ref x1), .val (.ref x2), .val (.ref o5), .val (.ref o26), .val (.int (p5 &&& (3 : Int32))), .val (.int (0 : Int32))] [(.int (own_eq s1 s1 x1 x2))]) _
              refine own_iload X72 hx (pc' := 157) rfl (hb hby at_155) rfl ?_
              refine own_icmpF X72 hx (pc' := 160) rfl (hb hby at_157) (XT.ii_ne_f (own_e0 (fun z => c138_69 z.2)).1) ?_
              refine own_aload X72 hx (pc' := 162) rfl (hb hby at_160) rfl rfl ?_
              refine own_aload X72 hx (pc' := 164) rfl (hb hby at_162) rfl rfl ?_
              refine own_callV X72 hx hZ (y := (⟨"com/example/ferrule/ferrule/io/CsvLayout", "equals", "(Ljava/lang/Object;)Z"⟩ : MethodName)) hown (hw _ (List.mem_of_getElem? (i := 34) rfl)) (hw _ (List.mem_of_getElem? (i := 35) rfl)) (hw _ (List.mem_of_getElem? (i := 37) rfl)) (hw _ (List.mem_of_getElem? (i := 36) rfl)) (hw _ (List.mem_of_getElem? (i := 15) rfl)) (hw _ (List.mem_of_getElem? (i := 38) rfl)) Exa_46  (by decide) (rm_eqC l Z a0 hw [] s1 x2 s1 x1 o26 o5 h37 n0 Siz_38 Exa_46 G37_1 G37_2 Exa_42 Fld_44 Fld_45) (by decide) (W := 0) (by decide) (by decide) (by decide) e72 (by rw [hml]; rfl) (argsL := [(.ref o5)]) (rest := []) rfl (lenOf pd__Ljava_lang_Object__Z rfl) rfl (Nat.le_of_eq rfl) (pc' := 167) rfl (hb hby at_164) ?_
              rintro _ T73 L73 X73 ⟨rfl, N73, e73⟩
              have M73 := Fr.app M72 N73
              show own_Goes p e below T73 (mkF m 167 #[.val (.int p1), .val (.int p2), .val (.int p3), .val (.int p4), .val (.int p5), .val (.int s1), .val (.int s1), .val (.ref x1), .val (.ref x2), .val (.ref o5), .val (.ref o26), .val (.int (p5 &&& (3 : Int32))), .val (.int (0 : Int32))] [(.int (own_eq s1 s1 x2 x1))]) _
              refine own_iload X73 hx (pc' := 169) rfl (hb hby at_167) rfl ?_
              refine own_icmpF X73 hx (pc' := 172) rfl (hb hby at_169) (XT.ii_ne_f (own_e0 (fun z => c138_69 z.2)).2) ?_
              refine own_iconst X73 hx (v := (1 : Int32)) (pc' := 173) rfl (hb hby at_172) rfl ?_
              refine own_goto X73 hx (pc' := 177) (hb hby at_173) (by decide) (by decide) ?_
              refine own_zret X73 hx hlk hret (by simp) (hb hby at_177) (by decide) (by decide) ?_
              rw [e73]
              exact ⟨rfl, M73⟩
          · refine own_icmpT X37 hx (pc' := 145) (hb hby at_131) (XT.ii_ne_t c131_68) (by decide) (by decide) ?_
            refine own_iconst X37 hx (v := (0 : Int32)) (pc' := 146) rfl (hb hby at_145) rfl ?_
            refine own_istore X37 hx (Ls' := #[.val (.int p1), .val (.int p2), .val (.int p3), .val (.int p4), .val (.int p5), .val (.int s1), .val (.int s1), .val (.ref x1), .val (.ref x2), .val (.ref o5), .val (.ref o26), .val (.int (p5 &&& (3 : Int32))), .val (.int (0 : Int32))]) (pc' := 148) rfl (hb hby at_146) rfl ?_
            refine own_aload X37 hx (pc' := 150) rfl (hb hby at_148) rfl rfl ?_
            refine own_aload X37 hx (pc' := 152) rfl (hb hby at_150) rfl rfl ?_
            refine own_callV X37 hx hZ (y := (⟨"com/example/ferrule/ferrule/io/CsvLayout", "equals", "(Ljava/lang/Object;)Z"⟩ : MethodName)) hown (hw _ (List.mem_of_getElem? (i := 34) rfl)) (hw _ (List.mem_of_getElem? (i := 35) rfl)) (hw _ (List.mem_of_getElem? (i := 37) rfl)) (hw _ (List.mem_of_getElem? (i := 36) rfl)) (hw _ (List.mem_of_getElem? (i := 15) rfl)) (hw _ (List.mem_of_getElem? (i := 38) rfl)) Exa_42  (by decide) (rm_eqC l Z a0 hw [] s1 x1 s1 x2 o5 o26 h37 n0 Siz_38 Exa_42 Fld_44 Fld_45 Exa_46 G37_1 G37_2) (by decide) (W := 0) (by decide) (by decide) (by decide) e37 (by rw [hml]; rfl) (argsL := [(.ref o26)]) (rest := []) rfl (lenOf pd__Ljava_lang_Object__Z rfl) rfl (Nat.le_of_eq rfl) (pc' := 155) rfl (hb hby at_152) ?_
            rintro _ T74 L74 X74 ⟨rfl, N74, e74⟩
            have M74 := Fr.app M37 N74
            show own_Goes p e below T74 (mkF m 155 #[.val (.int p1), .val (.int p2), .val (.int p3), .val (.int p4), .val (.int p5), .val (.int s1), .val (.int s1), .val (.ref x1), .val (.ref x2), .val (.ref o5), .val (.ref o26), .val (.int (p5 &&& (3 : Int32))), .val (.int (0 : Int32))] [(.int (own_eq s1 s1 x1 x2))]) _
            refine own_iload X74 hx (pc' := 157) rfl (hb hby at_155) rfl ?_
            refine own_icmpF X74 hx (pc' := 160) rfl (hb hby at_157) (XT.ii_ne_f (own_e0 (fun z => c131_68 z.1)).1) ?_
            refine own_aload X74 hx (pc' := 162) rfl (hb hby at_160) rfl rfl ?_
            refine own_aload X74 hx (pc' := 164) rfl (hb hby at_162) rfl rfl ?_
            refine own_callV X74 hx hZ (y := (⟨"com/example/ferrule/ferrule/io/CsvLayout", "equals", "(Ljava/lang/Object;)Z"⟩ : MethodName)) hown (hw _ (List.mem_of_getElem? (i := 34) rfl)) (hw _ (List.mem_of_getElem? (i := 35) rfl)) (hw _ (List.mem_of_getElem? (i := 37) rfl)) (hw _ (List.mem_of_getElem? (i := 36) rfl)) (hw _ (List.mem_of_getElem? (i := 15) rfl)) (hw _ (List.mem_of_getElem? (i := 38) rfl)) Exa_46  (by decide) (rm_eqC l Z a0 hw [] s1 x2 s1 x1 o26 o5 h37 n0 Siz_38 Exa_46 G37_1 G37_2 Exa_42 Fld_44 Fld_45) (by decide) (W := 0) (by decide) (by decide) (by decide) e74 (by rw [hml]; rfl) (argsL := [(.ref o5)]) (rest := []) rfl (lenOf pd__Ljava_lang_Object__Z rfl) rfl (Nat.le_of_eq rfl) (pc' := 167) rfl (hb hby at_164) ?_
            rintro _ T75 L75 X75 ⟨rfl, N75, e75⟩
            have M75 := Fr.app M74 N75
            show own_Goes p e below T75 (mkF m 167 #[.val (.int p1), .val (.int p2), .val (.int p3), .val (.int p4), .val (.int p5), .val (.int s1), .val (.int s1), .val (.ref x1), .val (.ref x2), .val (.ref o5), .val (.ref o26), .val (.int (p5 &&& (3 : Int32))), .val (.int (0 : Int32))] [(.int (own_eq s1 s1 x2 x1))]) _
            refine own_iload X75 hx (pc' := 169) rfl (hb hby at_167) rfl ?_
            refine own_icmpF X75 hx (pc' := 172) rfl (hb hby at_169) (XT.ii_ne_f (own_e0 (fun z => c131_68 z.1)).2) ?_
            refine own_iconst X75 hx (v := (1 : Int32)) (pc' := 173) rfl (hb hby at_172) rfl ?_
            refine own_goto X75 hx (pc' := 177) (hb hby at_173) (by decide) (by decide) ?_
            refine own_zret X75 hx hlk hret (by simp) (hb hby at_177) (by decide) (by decide) ?_
            rw [e75]
            exact ⟨rfl, M75⟩
  · refine own_ifT X1 hx (pc' := 18) (hb hby at_10) (XT.i0_ne_t c10_2) (by decide) (by decide) ?_
    refine own_iloadN X1 hx (pc' := 19) rfl (hb hby at_18) rfl ?_
    refine own_callS X1 hx hZ (y := (⟨"com/example/ferrule/ferrule/io/CsvLayoutEqualsPinLaw", "sep", "(I)C"⟩ : MethodName)) hown (hw _ (List.mem_of_getElem? (i := 0) rfl)) (hw _ (List.mem_of_getElem? (i := 1) rfl)) (hw _ (List.mem_of_getElem? (i := 2) rfl)) (hw _ (List.mem_of_getElem? (i := 3) rfl))  (by decide) (rm_sep l Z a0 hw [] p2 h0 n0 Z0) (by decide) (W := 0) (by decide) (by decide) (by decide) e1 (by rw [hml]; rfl) (argsL := [(.int p2)]) (rest := []) rfl (lenOf pd__I_C rfl) rfl (Nat.le_of_eq rfl) (pc' := 22) rfl (hb hby at_19) ?_
    rintro _ T76 L76 X76 ⟨rfl, N76, e76⟩
    have M76 := Fr.app M1 N76
    show own_Goes p e below T76 (mkF m 22 #[.val (.int p1), .val (.int p2), .val (.int p3), .val (.int p4), .val (.int p5), .val (.int s1), .unset, .unset, .unset, .unset, .unset, .unset, .unset] [(.int (own_sep p2))]) _
    have hs2 := own_sepP p2
    generalize (own_sep p2) = s2 at hs2 ⊢
    refine own_istore X76 hx (Ls' := #[.val (.int p1), .val (.int p2), .val (.int p3), .val (.int p4), .val (.int p5), .val (.int s1), .val (.int s2), .unset, .unset, .unset, .unset, .unset, .unset]) (pc' := 24) rfl (hb hby at_22) rfl ?_
    refine own_iloadN X76 hx (pc' := 25) rfl (hb hby at_24) rfl ?_
    refine own_callS X76 hx hZ (y := (⟨"com/example/ferrule/ferrule/io/CsvLayoutEqualsPinLaw", "header", "(I)Lcom/example/ferrule/ferrule/io/CsvLayout$Header;"⟩ : MethodName)) hown (hw _ (List.mem_of_getElem? (i := 4) rfl)) (hw _ (List.mem_of_getElem? (i := 5) rfl)) (hw _ (List.mem_of_getElem? (i := 2) rfl)) (hw _ (List.mem_of_getElem? (i := 6) rfl))  (by decide) (rm_hdr l Z a0 hw [] aD aP aA p3 h0 n0 Z0 SD SP SB) (by decide) (W := 0) (by decide) (by decide) (by decide) e76 (by rw [hml]; rfl) (argsL := [(.int p3)]) (rest := []) rfl (lenOf pd__I_Lcom_example_ferrule_ferrule_io_CsvLayout_Header_ rfl) rfl (Nat.le_of_eq rfl) (pc' := 28) rfl (hb hby at_25) ?_
    rintro _ T77 L77 X77 ⟨rfl, N77, e77⟩
    have M77 := Fr.app M76 N77
    show own_Goes p e below T77 (mkF m 28 #[.val (.int p1), .val (.int p2), .val (.int p3), .val (.int p4), .val (.int p5), .val (.int s1), .val (.int s2), .unset, .unset, .unset, .unset, .unset, .unset] [(.ref (own_hdr p3 aD aP aA))]) _
    generalize (own_hdr p3 aD aP aA) = x1
    refine own_astore X77 hx (Ls' := #[.val (.int p1), .val (.int p2), .val (.int p3), .val (.int p4), .val (.int p5), .val (.int s1), .val (.int s2), .val (.ref x1), .unset, .unset, .unset, .unset, .unset]) (pc' := 30) rfl (hb hby at_28) rfl rfl ?_
    refine own_iloadN X77 hx (pc' := 31) rfl (hb hby at_30) rfl ?_
    refine own_callS X77 hx hZ (y := (⟨"com/example/ferrule/ferrule/io/CsvLayoutEqualsPinLaw", "header", "(I)Lcom/example/ferrule/ferrule/io/CsvLayout$Header;"⟩ : MethodName)) hown (hw _ (List.mem_of_getElem? (i := 4) rfl)) (hw _ (List.mem_of_getElem? (i := 5) rfl)) (hw _ (List.mem_of_getElem? (i := 2) rfl)) (hw _ (List.mem_of_getElem? (i := 6) rfl))  (by decide) (rm_hdr l Z a0 hw [] aD aP aA p4 h0 n0 Z0 SD SP SB) (by decide) (W := 0) (by decide) (by decide) (by decide) e77 (by rw [hml]; rfl) (argsL := [(.int p4)]) (rest := []) rfl (lenOf pd__I_Lcom_example_ferrule_ferrule_io_CsvLayout_Header_ rfl) rfl (Nat.le_of_eq rfl) (pc' := 34) rfl (hb hby at_31) ?_
    rintro _ T78 L78 X78 ⟨rfl, N78, e78⟩
    have M78 := Fr.app M77 N78
    show own_Goes p e below T78 (mkF m 34 #[.val (.int p1), .val (.int p2), .val (.int p3), .val (.int p4), .val (.int p5), .val (.int s1), .val (.int s2), .val (.ref x1), .unset, .unset, .unset, .unset, .unset] [(.ref (own_hdr p4 aD aP aA))]) _
    generalize (own_hdr p4 aD aP aA) = x2
    refine own_astore X78 hx (Ls' := #[.val (.int p1), .val (.int p2), .val (.int p3), .val (.int p4), .val (.int p5), .val (.int s1), .val (.int s2), .val (.ref x1), .val (.ref x2), .unset, .unset, .unset, .unset]) (pc' := 36) rfl (hb hby at_34) rfl rfl ?_
    refine own_new X78 hx hZ hown (hw _ (List.mem_of_getElem? (i := 13) rfl)) (hw _ (List.mem_of_getElem? (i := 14) rfl)) (hw _ (List.mem_of_getElem? (i := 15) rfl)) e78 (pc' := 39) rfl (hb hby at_36) (by decide) (by decide) ?_
    intro T79 h79 X79 e79 E79 A79 D79
    obtain ⟨o79, g79⟩ : ∃ z, z = h0.size := ⟨_, rfl⟩
    rw [← g79] at A79 D79 ⊢
    have ge79 : n0 ≤ o79 := g79 ▸ Z0
    have Siz_80 := Nat.le_trans Z0 E79.1
    have Sta_81 := Sta.ext E79 SD
    have Sta_82 := Sta.ext E79 SP
    have Sta_83 := Sta.ext E79 SB
    have Old_84 := Old.ext OL E79
    have F87 : Fld Z h79 o79 "com/example/ferrule/ferrule/io/CsvLayout" "separator" "C" (.int (0 : Int32)) := D79 (Or.inr (hw _ (List.mem_of_getElem? (i := 31) rfl))) (ty := .char) (by decide)
    have F88 : Fld Z h79 o79 "com/example/ferrule/ferrule/io/CsvLayout" "header" "Lcom/example/ferrule/ferrule/io/CsvLayout$Header;" .null := D79 (Or.inr (hw _ (List.mem_of_getElem? (i := 33) rfl))) (ty := (.object "com/example/ferrule/ferrule/io/CsvLayout$Header")) (by decide)
    refine own_dup X79 hx (pc' := 40) rfl (hb hby at_39) rfl ?_
    refine own_iload X79 hx (pc' := 42) rfl (hb hby at_40) rfl ?_
    refine own_aload X79 hx (pc' := 44) rfl (hb hby at_42) rfl rfl ?_
    refine own_callC X79 hx hZ (y := (⟨"com/example/ferrule/ferrule/io/CsvLayout", "<init>", "(CLcom/example/ferrule/ferrule/io/CsvLayout$Header;)V"⟩ : MethodName)) rfl hown (hw _ (List.mem_of_getElem? (i := 16) rfl)) (hw _ (List.mem_of_getElem? (i := 17) rfl)) (hw _ (List.mem_of_getElem? (i := 15) rfl)) (hw _ (List.mem_of_getElem? (i := 18) rfl))  (by decide) (rm_csv l Z a0 hw [] o79 s1 x1 h79 n0 Siz_80 A79 F87 F88 ge79 hs1) (by decide) (W := 1) (by decide) (by decide) (by decide) e79 (by rw [hml]; rfl) (argsL := [(.int s1), (.ref x1)]) (rest := [(.ref o79)]) rfl (lenOf pd__CLcom_example_ferrule_ferrule_io_CsvLayout_Header__V rfl) rfl (Nat.le_of_eq rfl) (pc' := 47) rfl (hb hby at_44) ?_
    rintro _ T89 L89 X89 ⟨rfl, N89, K89, G89_0, G89_1, G89_2⟩
    have M89 := Fr.app M78 N89
    obtain ⟨h89, e89⟩ : ∃ z, T89.heap = z := ⟨_, rfl⟩
    rw [e89] at K89 G89_0 G89_1 G89_2
    have Siz_90 := Nat.le_trans Siz_80 K89.1
    have Old_94 := Old_84.keep K89 (allS ge79 all0)
    have Exa_97 := A79.keep K89
    show own_Goes p e below T89 (mkF m 47 #[.val (.int p1), .val (.int p2), .val (.int p3), .val (.int p4), .val (.int p5), .val (.int s1), .val (.int s2), .val (.ref x1), .val (.ref x2), .unset, .unset, .unset, .unset] [(.ref o79)]) _
    refine own_astore X89 hx (Ls' := #[.val (.int p1), .val (.int p2), .val (.int p3), .val (.int p4), .val (.int p5), .val (.int s1), .val (.int s2), .val (.ref x1), .val (.ref x2), .val (.ref o79), .unset, .unset, .unset]) (pc' := 49) rfl (hb hby at_47) rfl rfl ?_
    refine own_new X89 hx hZ hown (hw _ (List.mem_of_getElem? (i := 13) rfl)) (hw _ (List.mem_of_getElem? (i := 14) rfl)) (hw _ (List.mem_of_getElem? (i := 15) rfl)) e89 (pc' := 52) rfl (hb hby at_49) (by decide) (by decide) ?_
    intro T100 h100 X100 e100 E100 A100 D100
    obtain ⟨o100, g100⟩ : ∃ z, z = h89.size := ⟨_, rfl⟩
    rw [← g100] at A100 D100 ⊢
    have ne100_o79 : o79 ≠ o100 := Nat.ne_of_lt (g100 ▸ Exa_97.lt)
    have ge100 : n0 ≤ o100 := g100 ▸ Siz_90
    have Siz_101 := Nat.le_trans Siz_90 E100.1
    have Old_102 := Old.ext Old_94 E100
    have Exa_105 := Exa.ext E100 Exa_97
    have Exa_106 := Exa.ext E100 G89_0
    have Fld_107 := Fld.ext E100 G89_1
    have Fld_108 := Fld.ext E100 G89_2
    have F109 : Fld Z h100 o100 "com/example/ferrule/ferrule/io/CsvLayout" "separator" "C" (.int (0 : Int32)) := D100 (Or.inr (hw _ (List.mem_of_getElem? (i := 31) rfl))) (ty := .char) (by decide)
    have F110 : Fld Z h100 o100 "com/example/ferrule/ferrule/io/CsvLayout" "header" "Lcom/example/ferrule/ferrule/io/CsvLayout$Header;" .null := D100 (Or.inr (hw _ (List.mem_of_getElem? (i := 33) rfl))) (ty := (.object "com/example/ferrule/ferrule/io/CsvLayout$Header")) (by decide)
    refine own_dup X100 hx (pc' := 53) rfl (hb hby at_52) rfl ?_
    refine own_iload X100 hx (pc' := 55) rfl (hb hby at_53) rfl ?_
    refine own_aload X100 hx (pc' := 57) rfl (hb hby at_55) rfl rfl ?_
    refine own_callC X100 hx hZ (y := (⟨"com/example/ferrule/ferrule/io/CsvLayout", "<init>", "(CLcom/example/ferrule/ferrule/io/CsvLayout$Header;)V"⟩ : MethodName)) rfl hown (hw _ (List.mem_of_getElem? (i := 16) rfl)) (hw _ (List.mem_of_getElem? (i := 17) rfl)) (hw _ (List.mem_of_getElem? (i := 15) rfl)) (hw _ (List.mem_of_getElem? (i := 18) rfl))  (by decide) (rm_csv l Z a0 hw [] o100 s2 x2 h100 n0 Siz_101 A100 F109 F110 ge100 hs2) (by decide) (W := 1) (by decide) (by decide) (by decide) e100 (by rw [hml]; rfl) (argsL := [(.int s2), (.ref x2)]) (rest := [(.ref o100)]) rfl (lenOf pd__CLcom_example_ferrule_ferrule_io_CsvLayout_Header__V rfl) rfl (Nat.le_of_eq rfl) (pc' := 60) rfl (hb hby at_57) ?_
    rintro _ T111 L111 X111 ⟨rfl, N111, K111, G111_0, G111_1, G111_2⟩
    have M111 := Fr.app M89 N111
    obtain ⟨h111, e111⟩ : ∃ z, T111.heap = z := ⟨_, rfl⟩
    rw [e111] at K111 G111_0 G111_1 G111_2
    have Siz_112 := Nat.le_trans Siz_101 K111.1
    have Old_113 := Old_102.keep K111 (allS ge100 all0)
    have Exa_116 := Exa_105.keep K111
    have Exa_117 := Exa_106.keep K111
    have Fld_118 := Fld_107.keep K111 (ninS ne100_o79 nin0)
    have Fld_119 := Fld_108.keep K111 (ninS ne100_o79 nin0)
    have Exa_120 := A100.keep K111
    show own_Goes p e below T111 (mkF m 60 #[.val (.int p1), .val (.int p2), .val (.int p3), .val (.int p4), .val (.int p5), .val (.int s1), .val (.int s2), .val (.ref x1), .val (.ref x2), .val (.ref o79), .unset, .unset, .unset] [(.ref o100)]) _
    refine own_astore X111 hx (Ls' := #[.val (.int p1), .val (.int p2), .val (.int p3), .val (.int p4), .val (.int p5), .val (.int s1), .val (.int s2), .val (.ref x1), .val (.ref x2), .val (.ref o79), .val (.ref o100), .unset, .unset]) (pc' := 62) rfl (hb hby at_60) rfl rfl ?_
    refine own_iload X111 hx (pc' := 64) rfl (hb hby at_62) rfl ?_
    refine own_iconst X111 hx (v := (3 : Int32)) (pc' := 65) rfl (hb hby at_64) rfl ?_
    refine own_iand X111 hx (v := (p5 &&& (3 : Int32))) (pc' := 66) rfl (hb hby at_65) rfl ?_
    refine own_istore X111 hx (Ls' := #[.val (.int p1), .val (.int p2), .val (.int p3), .val (.int p4), .val (.int p5), .val (.int s1), .val (.int s2), .val (.ref x1), .val (.ref x2), .val (.ref o79), .val (.ref o100), .val (.int (p5 &&& (3 : Int32))), .unset]) (pc' := 68) rfl (hb hby at_66) rfl ?_
    refine own_iload X111 hx (pc' := 70) rfl (hb hby at_68) rfl ?_
    refine own_iconst X111 hx (v := (1 : Int32)) (pc' := 71) rfl (hb hby at_70) rfl ?_
    by_cases c71_123 : (p5 &&& (3 : Int32)) = (1 : Int32)
    · refine own_icmpF X111 hx (pc' := 74) rfl (hb hby at_71) (XT.ii_ne_f c71_123) ?_
      refine own_aload X111 hx (pc' := 76) rfl (hb hby at_74) rfl rfl ?_
      refine own_anull X111 hx (pc' := 77) rfl (hb hby at_76) ?_
      refine own_callV X111 hx hZ (y := (⟨"com/example/ferrule/ferrule/io/CsvLayout", "equals", "(Ljava/lang/Object;)Z"⟩ : MethodName)) hown (hw _ (List.mem_of_getElem? (i := 34) rfl)) (hw _ (List.mem_of_getElem? (i := 35) rfl)) (hw _ (List.mem_of_getElem? (i := 37) rfl)) (hw _ (List.mem_of_getElem? (i := 36) rfl)) (hw _ (List.mem_of_getElem? (i := 15) rfl)) (hw _ (List.mem_of_getElem? (i := 38) rfl)) Exa_116  (by decide) (rm_eqN l Z a0 hw [] o79 h111 n0 Siz_112 Exa_116) (by decide) (W := 0) (by decide) (by decide) (by decide) e111 (by rw [hml]; rfl) (argsL := [.null]) (rest := []) rfl (lenOf pd__Ljava_lang_Object__Z rfl) rfl (Nat.le_of_eq rfl) (pc' := 80) rfl (hb hby at_77) ?_
      rintro _ T124 L124 X124 ⟨rfl, N124, e124⟩
      have M124 := Fr.app M111 N124
      show own_Goes p e below T124 (mkF m 80 #[.val (.int p1), .val (.int p2), .val (.int p3), .val (.int p4), .val (.int p5), .val (.int s1), .val (.int s2), .val (.ref x1), .val (.ref x2), .val (.ref o79), .val (.ref o100), .val (.int (p5 &&& (3 : Int32))), .unset] [(.int (0 : Int32))]) _
      refine own_ifF X124 hx (pc' := 83) rfl (hb hby at_80) (XT.i0_ne_f (by decide)) ?_
      refine own_iconst X124 hx (v := (1 : Int32)) (pc' := 84) rfl (hb hby at_83) rfl ?_
      refine own_goto X124 hx (pc' := 88) (hb hby at_84) (by decide) (by decide) ?_
      refine own_zret X124 hx hlk hret (by simp) (hb hby at_88) (by decide) (by decide) ?_
      rw [e124]
      exact ⟨rfl, M124⟩
    · refine own_icmpT X111 hx (pc' := 89) (hb hby at_71) (XT.ii_ne_t c71_123) (by decide) (by decide) ?_
      refine own_iload X111 hx (pc' := 91) rfl (hb hby at_89) rfl ?_
      refine own_iconst X111 hx (v := (2 : Int32)) (pc' := 92) rfl (hb hby at_91) rfl ?_
      by_cases c92_125 : (p5 &&& (3 : Int32)) = (2 : Int32)
      · refine own_icmpF X111 hx (pc' := 95) rfl (hb hby at_92) (XT.ii_ne_f c92_125) ?_
        refine own_aload X111 hx (pc' := 97) rfl (hb hby at_95) rfl rfl ?_
        refine own_iloadN X111 hx (pc' := 98) rfl (hb hby at_97) rfl ?_
        refine own_callS X111 hx hZ (y := (⟨"java/lang/Integer", "valueOf", "(I)Ljava/lang/Integer;"⟩ : MethodName)) hown (hw _ (List.mem_of_getElem? (i := 43) rfl)) (hw _ (List.mem_of_getElem? (i := 44) rfl)) (hw _ (List.mem_of_getElem? (i := 45) rfl)) (hw _ (List.mem_of_getElem? (i := 46) rfl))  (by decide) (rm_vof l Z a0 hw [] ca cc vl p1 h111 n0 Siz_112 (Sta.ext Old_113.2 SH) (Sta.ext Old_113.2 SA) Old_113 BX) (by decide) (W := 1) (by decide) (by decide) (by decide) e111 (by rw [hml]; rfl) (argsL := [(.int p1)]) (rest := [(.ref o79)]) rfl (lenOf pd__I_Ljava_lang_Integer_ rfl) rfl (Nat.le_of_eq rfl) (pc' := 101) rfl (hb hby at_98) ?_
        rintro _ T126 L126 X126 ⟨r126, rfl, N126, K126, A126⟩
        have M126 := Fr.app M111 N126
        obtain ⟨h126, e126⟩ : ∃ z, T126.heap = z := ⟨_, rfl⟩
        rw [e126] at K126 A126
        have Siz_127 := Nat.le_trans Siz_112 K126.1
        have Old_128 := Old_113.keep K126 all0
        have Exa_131 := Exa_116.keep K126
        have Exa_132 := Exa_117.keep K126
        have Fld_133 := Fld_118.keep K126 nin0
        have Fld_134 := Fld_119.keep K126 nin0
        have Exa_135 := Exa_120.keep K126
        have Exa_136 := G111_0.keep K126
        have Fld_137 := G111_1.keep K126 nin0
        have Fld_138 := G111_2.keep K126 nin0
        show own_Goes p e below T126 (mkF m 101 #[.val (.int p1), .val (.int p2), .val (.int p3), .val (.int p4), .val (.int p5), .val (.int s1), .val (.int s2), .val (.ref x1), .val (.ref x2), .val (.ref o79), .val (.ref o100), .val (.int (p5 &&& (3 : Int32))), .unset] [(.ref r126), (.ref o79)]) _
        refine own_callV X126 hx hZ (y := (⟨"com/example/ferrule/ferrule/io/CsvLayout", "equals", "(Ljava/lang/Object;)Z"⟩ : MethodName)) hown (hw _ (List.mem_of_getElem? (i := 34) rfl)) (hw _ (List.mem_of_getElem? (i := 35) rfl)) (hw _ (List.mem_of_getElem? (i := 37) rfl)) (hw _ (List.mem_of_getElem? (i := 36) rfl)) (hw _ (List.mem_of_getElem? (i := 15) rfl)) (hw _ (List.mem_of_getElem? (i := 38) rfl)) Exa_131  (by decide) (rm_eqI l Z a0 hw [] o79 r126 h126 n0 Siz_127 Exa_131 A126) (by decide) (W := 0) (by decide) (by decide) (by decide) e126 (by rw [hml]; rfl) (argsL := [(.ref r126)]) (rest := []) rfl (lenOf pd__Ljava_lang_Object__Z rfl) rfl (Nat.le_of_eq rfl) (pc' := 104) rfl (hb hby at_101) ?_
        rintro _ T139 L139 X139 ⟨rfl, N139, e139⟩
        have M139 := Fr.app M126 N139
        show own_Goes p e below T139 (mkF m 104 #[.val (.int p1), .val (.int p2), .val (.int p3), .val (.int p4), .val (.int p5), .val (.int s1), .val (.int s2), .val (.ref x1), .val (.ref x2), .val (.ref o79), .val (.ref o100), .val (.int (p5 &&& (3 : Int32))), .unset] [(.int (0 : Int32))]) _
        refine own_ifF X139 hx (pc' := 107) rfl (hb hby at_104) (XT.i0_ne_f (by decide)) ?_
        refine own_iconst X139 hx (v := (1 : Int32)) (pc' := 108) rfl (hb hby at_107) rfl ?_
        refine own_goto X139 hx (pc' := 112) (hb hby at_108) (by decide) (by decide) ?_
        refine own_zret X139 hx hlk hret (by simp) (hb hby at_112) (by decide) (by decide) ?_
        rw [e139]
        exact ⟨rfl, M139⟩
      · refine own_icmpT X111 hx (pc' := 113) (hb hby at_92) (XT.ii_ne_t c92_125) (by decide) (by decide) ?_
        refine own_iload X111 hx (pc' := 115) rfl (hb hby at_113) rfl ?_
        refine own_iconst X111 hx (v := (3 : Int32)) (pc' := 116) rfl (hb hby at_115) rfl ?_
        by_cases c116_140 : (p5 &&& (3 : Int32)) = (3 : Int32)
        · refine own_icmpF X111 hx (pc' := 119) rfl (hb hby at_116) (XT.ii_ne_f c116_140) ?_
          refine own_aload X111 hx (pc' := 121) rfl (hb hby at_119) rfl rfl ?_
          refine own_aload X111 hx (pc' := 123) rfl (hb hby at_121) rfl rfl ?_
          refine own_callV X111 hx hZ (y := (⟨"com/example/ferrule/ferrule/io/CsvLayout", "equals", "(Ljava/lang/Object;)Z"⟩ : MethodName)) hown (hw _ (List.mem_of_getElem? (i := 34) rfl)) (hw _ (List.mem_of_getElem? (i := 35) rfl)) (hw _ (List.mem_of_getElem? (i := 37) rfl)) (hw _ (List.mem_of_getElem? (i := 36) rfl)) (hw _ (List.mem_of_getElem? (i := 15) rfl)) (hw _ (List.mem_of_getElem? (i := 38) rfl)) Exa_116  (by decide) (rm_eqC l Z a0 hw [] s1 x1 s1 x1 o79 o79 h111 n0 Siz_112 Exa_116 Fld_118 Fld_119 Exa_116 Fld_118 Fld_119) (by decide) (W := 0) (by decide) (by decide) (by decide) e111 (by rw [hml]; rfl) (argsL := [(.ref o79)]) (rest := []) rfl (lenOf pd__Ljava_lang_Object__Z rfl) rfl (Nat.le_of_eq rfl) (pc' := 126) rfl (hb hby at_123) ?_
          rintro _ T141 L141 X141 ⟨rfl, N141, e141⟩
          have M141 := Fr.app M111 N141
          show own_Goes p e below T141 (mkF m 126 #[.val (.int p1), .val (.int p2), .val (.int p3), .val (.int p4), .val (.int p5), .val (.int s1), .val (.int s2), .val (.ref x1), .val (.ref x2), .val (.ref o79), .val (.ref o100), .val (.int (p5 &&& (3 : Int32))), .unset] [(.int (own_eq s1 s1 x1 x1))]) _
          refine own_zret X141 hx hlk hret (by simp) (hb hby at_126) (by decide) (by decide) ?_
          rw [e141]
          exact ⟨by rw [own_eqs]; rfl, M141⟩
        · refine own_icmpT X111 hx (pc' := 127) (hb hby at_116) (XT.ii_ne_t c116_140) (by decide) (by decide) ?_
          refine own_iload X111 hx (pc' := 129) rfl (hb hby at_127) rfl ?_
          refine own_iload X111 hx (pc' := 131) rfl (hb hby at_129) rfl ?_
          by_cases c131_142 : s1 = s2
          · refine own_icmpF X111 hx (pc' := 134) rfl (hb hby at_131) (XT.ii_ne_f c131_142) ?_
            refine own_aload X111 hx (pc' := 136) rfl (hb hby at_134) rfl rfl ?_
            refine own_aload X111 hx (pc' := 138) rfl (hb hby at_136) rfl rfl ?_
            by_cases c138_143 : (Value.ref x1) = (Value.ref x2)
            · refine own_acmpF X111 hx (pc' := 141) rfl (hb hby at_138) rfl rfl (XT.aa_ne_f c138_143) ?_
              refine own_iconst X111 hx (v := (1 : Int32)) (pc' := 142) rfl (hb hby at_141) rfl ?_
              refine own_goto X111 hx (pc' := 146) (hb hby at_142) (by decide) (by decide) ?_
              refine own_istore X111 hx (Ls' := #[.val (.int p1), .val (.int p2), .val (.int p3), .val (.int p4), .val (.int p5), .val (.int s1), .val (.int s2), .val (.ref x1), .val (.ref x2), .val (.ref o79), .val (.ref o100), .val (.int (p5 &&& (3 : Int32))), .val (.int (1 : Int32))]) (pc' := 148) rfl (hb hby at_146) rfl ?_
              refine own_aload X111 hx (pc' := 150) rfl (hb hby at_148) rfl rfl ?_
              refine own_aload X111 hx (pc' := 152) rfl (hb hby at_150) rfl rfl ?_
              refine own_callV X111 hx hZ (y := (⟨"com/example/ferrule/ferrule/io/CsvLayout", "equals", "(Ljava/lang/Object;)Z"⟩ : MethodName)) hown (hw _ (List.mem_of_getElem? (i := 34) rfl)) (hw _ (List.mem_of_getElem? (i := 35) rfl)) (hw _ (List.mem_of_getElem? (i := 37) rfl)) (hw _ (List.mem_of_getElem? (i := 36) rfl)) (hw _ (List.mem_of_getElem? (i := 15) rfl)) (hw _ (List.mem_of_getElem? (i := 38) rfl)) Exa_116  (by decide) (rm_eqC l Z a0 hw [] s1 x1 s2 x2 o79 o100 h111 n0 Siz_112 Exa_116 Fld_118 Fld_119 Exa_120 G111_1 G111_2) (by decide) (W := 0) (by decide) (by decide) (by decide) e111 (by rw [hml]; rfl) (argsL := [(.ref o100)]) (rest := []) rfl (lenOf pd__Ljava_lang_Object__Z rfl) rfl (Nat.le_of_eq rfl) (pc' := 155) rfl (hb hby at_152) ?_
              rintro _ T144 L144 X144 ⟨rfl, N144, e144⟩
              have M144 := Fr.app M111 N144
              show own_Goes p e below T144 (mkF m 155 #[.val (.int p1), .val (.int p2), .val (.int p3), .val (.int p4), .val (.int p5), .val (.int s1), .val (.int s2), .val (.ref x1), .val (.ref x2), .val (.ref o79), .val (.ref o100), .val (.int (p5 &&& (3 : Int32))), .val (.int (1 : Int32))] [(.int (own_eq s1 s2 x1 x2))]) _
              refine own_iload X144 hx (pc' := 157) rfl (hb hby at_155) rfl ?_
              refine own_icmpF X144 hx (pc' := 160) rfl (hb hby at_157) (XT.ii_ne_f (own_e1 c131_142 c138_143).1) ?_
              refine own_aload X144 hx (pc' := 162) rfl (hb hby at_160) rfl rfl ?_
              refine own_aload X144 hx (pc' := 164) rfl (hb hby at_162) rfl rfl ?_
              refine own_callV X144 hx hZ (y := (⟨"com/example/ferrule/ferrule/io/CsvLayout", "equals", "(Ljava/lang/Object;)Z"⟩ : MethodName)) hown (hw _ (List.mem_of_getElem? (i := 34) rfl)) (hw _ (List.mem_of_getElem? (i := 35) rfl)) (hw _ (List.mem_of_getElem? (i := 37) rfl)) (hw _ (List.mem_of_getElem? (i := 36) rfl)) (hw _ (List.mem_of_getElem? (i := 15) rfl)) (hw _ (List.mem_of_getElem? (i := 38) rfl)) Exa_120  (by decide) (rm_eqC l Z a0 hw [] s2 x2 s1 x1 o100 o79 h111 n0 Siz_112 Exa_120 G111_1 G111_2 Exa_116 Fld_118 Fld_119) (by decide) (W := 0) (by decide) (by decide) (by decide) e144 (by rw [hml]; rfl) (argsL := [(.ref o79)]) (rest := []) rfl (lenOf pd__Ljava_lang_Object__Z rfl) rfl (Nat.le_of_eq rfl) (pc' := 167) rfl (hb hby at_164) ?_
              rintro _ T145 L145 X145 ⟨rfl, N145, e145⟩
              have M145 := Fr.app M144 N145
              show own_Goes p e below T145 (mkF m 167 #[.val (.int p1), .val (.int p2), .val (.int p3), .val (.int p4), .val (.int p5), .val (.int s1), .val (.int s2), .val (.ref x1), .val (.ref x2), .val (.ref o79), .val (.ref o100), .val (.int (p5 &&& (3 : Int32))), .val (.int (1 : Int32))] [(.int (own_eq s2 s1 x2 x1))]) _
              refine own_iload X145 hx (pc' := 169) rfl (hb hby at_167) rfl ?_
              refine own_icmpF X145 hx (pc' := 172) rfl (hb hby at_169) (XT.ii_ne_f (own_e1 c131_142 c138_143).2) ?_
              refine own_iconst X145 hx (v := (1 : Int32)) (pc' := 173) rfl (hb hby at_172) rfl ?_
              refine own_goto X145 hx (pc' := 177) (hb hby at_173) (by decide) (by decide) ?_
              refine own_zret X145 hx hlk hret (by simp) (hb hby at_177) (by decide) (by decide) ?_
              rw [e145]
              exact ⟨rfl, M145⟩
            · refine own_acmpT X111 hx (pc' := 145) (hb hby at_138) rfl rfl (XT.aa_ne_t c138_143) (by decide) (by decide) ?_
              refine own_iconst X111 hx (v := (0 : Int32)) (pc' := 146) rfl (hb hby at_145) rfl ?_
              refine own_istore X111 hx (Ls' := #[.val (.int p1), .val (.int p2), .val (.int p3), .val (.int p4), .val (.int p5), .val (.int s1), .val (.int s2), .val (.ref x1), .val (.ref x2), .val (.ref o79), .val (.ref o100), .val (.int (p5 &&& (3 : Int32))), .val (.int (0 : Int32))]) (pc' := 148) rfl (hb hby at_146) rfl ?_
              refine own_aload X111 hx (pc' := 150) rfl (hb hby at_148) rfl rfl ?_
              refine own_aload X111 hx (pc' := 152) rfl (hb hby at_150) rfl rfl ?_
              refine own_callV X111 hx hZ (y := (⟨"com/example/ferrule/ferrule/io/CsvLayout", "equals", "(Ljava/lang/Object;)Z"⟩ : MethodName)) hown (hw _ (List.mem_of_getElem? (i := 34) rfl)) (hw _ (List.mem_of_getElem? (i := 35) rfl)) (hw _ (List.mem_of_getElem? (i := 37) rfl)) (hw _ (List.mem_of_getElem? (i := 36) rfl)) (hw _ (List.mem_of_getElem? (i := 15) rfl)) (hw _ (List.mem_of_getElem? (i := 38) rfl)) Exa_116  (by decide) (rm_eqC l Z a0 hw [] s1 x1 s2 x2 o79 o100 h111 n0 Siz_112 Exa_116 Fld_118 Fld_119 Exa_120 G111_1 G111_2) (by decide) (W := 0) (by decide) (by decide) (by decide) e111 (by rw [hml]; rfl) (argsL := [(.ref o100)]) (rest := []) rfl (lenOf pd__Ljava_lang_Object__Z rfl) rfl (Nat.le_of_eq rfl) (pc' := 155) rfl (hb hby at_152) ?_
              rintro _ T146 L146 X146 ⟨rfl, N146, e146⟩
              have M146 := Fr.app M111 N146
              show own_Goes p e below T146 (mkF m 155 #[.val (.int p1), .val (.int p2), .val (.int p3), .val (.int p4), .val (.int p5), .val (.int s1), .val (.int s2), .val (.ref x1), .val (.ref x2), .val (.ref o79), .val (.ref o100), .val (.int (p5 &&& (3 : Int32))), .val (.int (0 : Int32))] [(.int (own_eq s1 s2 x1 x2))]) _
              refine own_iload X146 hx (pc' := 157) rfl (hb hby at_155) rfl ?_
              refine own_icmpF X146 hx (pc' := 160) rfl (hb hby at_157) (XT.ii_ne_f (own_e0 (fun z => c138_143 z.2)).1) ?_
              refine own_aload X146 hx (pc' := 162) rfl (hb hby at_160) rfl rfl ?_
              refine own_aload X146 hx (pc' := 164) rfl (hb hby at_162) rfl rfl ?_
              refine own_callV X146 hx hZ (y := (⟨"com/example/ferrule/ferrule/io/CsvLayout", "equals", "(Ljava/lang/Object;)Z"⟩ : MethodName)) hown (hw _ (List.mem_of_getElem? (i := 34) rfl)) (hw _ (List.mem_of_getElem? (i := 35) rfl)) (hw _ (List.mem_of_getElem? (i := 37) rfl)) (hw _ (List.mem_of_getElem? (i := 36) rfl)) (hw _ (List.mem_of_getElem? (i := 15) rfl)) (hw _ (List.mem_of_getElem? (i := 38) rfl)) Exa_120  (by decide) (rm_eqC l Z a0 hw [] s2 x2 s1 x1 o100 o79 h111 n0 Siz_112 Exa_120 G111_1 G111_2 Exa_116 Fld_118 Fld_119) (by decide) (W := 0) (by decide) (by decide) (by decide) e146 (by rw [hml]; rfl) (argsL := [(.ref o79)]) (rest := []) rfl (lenOf pd__Ljava_lang_Object__Z rfl) rfl (Nat.le_of_eq rfl) (pc' := 167) rfl (hb hby at_164) ?_
              rintro _ T147 L147 X147 ⟨rfl, N147, e147⟩
              have M147 := Fr.app M146 N147
              show own_Goes p e below T147 (mkF m 167 #[.val (.int p1), .val (.int p2), .val (.int p3), .val (.int p4), .val (.int p5), .val (.int s1), .val (.int s2), .val (.ref x1), .val (.ref x2), .val (.ref o79), .val (.ref o100), .val (.int (p5 &&& (3 : Int32))), .val (.int (0 : Int32))] [(.int (own_eq s2 s1 x2 x1))]) _
              refine own_iload X147 hx (pc' := 169) rfl (hb hby at_167) rfl ?_
              refine own_icmpF X147 hx (pc' := 172) rfl (hb hby at_169) (XT.ii_ne_f (own_e0 (fun z => c138_143 z.2)).2) ?_
              refine own_iconst X147 hx (v := (1 : Int32)) (pc' := 173) rfl (hb hby at_172) rfl ?_
              refine own_goto X147 hx (pc' := 177) (hb hby at_173) (by decide) (by decide) ?_
              refine own_zret X147 hx hlk hret (by simp) (hb hby at_177) (by decide) (by decide) ?_
              rw [e147]
              exact ⟨rfl, M147⟩
          · refine own_icmpT X111 hx (pc' := 145) (hb hby at_131) (XT.ii_ne_t c131_142) (by decide) (by decide) ?_
            refine own_iconst X111 hx (v := (0 : Int32)) (pc' := 146) rfl (hb hby at_145) rfl ?_
            refine own_istore X111 hx (Ls' := #[.val (.int p1), .val (.int p2), .val (.int p3), .val (.int p4), .val (.int p5), .val (.int s1), .val (.int s2), .val (.ref x1), .val (.ref x2), .val (.ref o79), .val (.ref o100), .val (.int (p5 &&& (3 : Int32))), .val (.int (0 : Int32))]) (pc' := 148) rfl (hb hby at_146) rfl ?_
            refine own_aload X111 hx (pc' := 150) rfl (hb hby at_148) rfl rfl ?_
            refine own_aload X111 hx (pc' := 152) rfl (hb hby at_150) rfl rfl ?_
            refine own_callV X111 hx hZ (y := (⟨"com/example/ferrule/ferrule/io/CsvLayout", "equals", "(Ljava/lang/Object;)Z"⟩ : MethodName)) hown (hw _ (List.mem_of_getElem? (i := 34) rfl)) (hw _ (List.mem_of_getElem? (i := 35) rfl)) (hw _ (List.mem_of_getElem? (i := 37) rfl)) (hw _ (List.mem_of_getElem? (i := 36) rfl)) (hw _ (List.mem_of_getElem? (i := 15) rfl)) (hw _ (List.mem_of_getElem? (i := 38) rfl)) Exa_116  (by decide) (rm_eqC l Z a0 hw [] s1 x1 s2 x2 o79 o100 h111 n0 Siz_112 Exa_116 Fld_118 Fld_119 Exa_120 G111_1 G111_2) (by decide) (W := 0) (by decide) (by decide) (by decide) e111 (by rw [hml]; rfl) (argsL := [(.ref o100)]) (rest := []) rfl (lenOf pd__Ljava_lang_Object__Z rfl) rfl (Nat.le_of_eq rfl) (pc' := 155) rfl (hb hby at_152) ?_
            rintro _ T148 L148 X148 ⟨rfl, N148, e148⟩
            have M148 := Fr.app M111 N148
            show own_Goes p e below T148 (mkF m 155 #[.val (.int p1), .val (.int p2), .val (.int p3), .val (.int p4), .val (.int p5), .val (.int s1), .val (.int s2), .val (.ref x1), .val (.ref x2), .val (.ref o79), .val (.ref o100), .val (.int (p5 &&& (3 : Int32))), .val (.int (0 : Int32))] [(.int (own_eq s1 s2 x1 x2))]) _
            refine own_iload X148 hx (pc' := 157) rfl (hb hby at_155) rfl ?_
            refine own_icmpF X148 hx (pc' := 160) rfl (hb hby at_157) (XT.ii_ne_f (own_e0 (fun z => c131_142 z.1)).1) ?_
            refine own_aload X148 hx (pc' := 162) rfl (hb hby at_160) rfl rfl ?_
            refine own_aload X148 hx (pc' := 164) rfl (hb hby at_162) rfl rfl ?_
            refine own_callV X148 hx hZ (y := (⟨"com/example/ferrule/ferrule/io/CsvLayout", "equals", "(Ljava/lang/Object;)Z"⟩ : MethodName)) hown (hw _ (List.mem_of_getElem? (i := 34) rfl)) (hw _ (List.mem_of_getElem? (i := 35) rfl)) (hw _ (List.mem_of_getElem? (i := 37) rfl)) (hw _ (List.mem_of_getElem? (i := 36) rfl)) (hw _ (List.mem_of_getElem? (i := 15) rfl)) (hw _ (List.mem_of_getElem? (i := 38) rfl)) Exa_120  (by decide) (rm_eqC l Z a0 hw [] s2 x2 s1 x1 o100 o79 h111 n0 Siz_112 Exa_120 G111_1 G111_2 Exa_116 Fld_118 Fld_119) (by decide) (W := 0) (by decide) (by decide) (by decide) e148 (by rw [hml]; rfl) (argsL := [(.ref o79)]) (rest := []) rfl (lenOf pd__Ljava_lang_Object__Z rfl) rfl (Nat.le_of_eq rfl) (pc' := 167) rfl (hb hby at_164) ?_
            rintro _ T149 L149 X149 ⟨rfl, N149, e149⟩
            have M149 := Fr.app M148 N149
            show own_Goes p e below T149 (mkF m 167 #[.val (.int p1), .val (.int p2), .val (.int p3), .val (.int p4), .val (.int p5), .val (.int s1), .val (.int s2), .val (.ref x1), .val (.ref x2), .val (.ref o79), .val (.ref o100), .val (.int (p5 &&& (3 : Int32))), .val (.int (0 : Int32))] [(.int (own_eq s2 s1 x2 x1))]) _
            refine own_iload X149 hx (pc' := 169) rfl (hb hby at_167) rfl ?_
            refine own_icmpF X149 hx (pc' := 172) rfl (hb hby at_169) (XT.ii_ne_f (own_e0 (fun z => c131_142 z.1)).2) ?_
            refine own_iconst X149 hx (v := (1 : Int32)) (pc' := 173) rfl (hb hby at_172) rfl ?_
            refine own_goto X149 hx (pc' := 177) (hb hby at_173) (by decide) (by decide) ?_
            refine own_zret X149 hx hlk hret (by simp) (hb hby at_177) (by decide) (by decide) ?_
            rw [e149]
            exact ⟨rfl, M149⟩
set_option maxRecDepth 65536 in
set_option maxHeartbeats 40000000 in
theorem comes_1 {Post : Tables → Env → Array Value → State → Outcome → State → Prop} (hpost : ∀ tb e args s v u, (limb_1_1.after args s (.returned v) u = true ∧ limb_1_2.after args s (.returned v) u = true ∧ True) → FrameEnd s (.returned v) u (Jvm.fieldLocs frame_1_writes args s ++ Jvm.arrayLocs frame_1_arrays args s ++ Jvm.staticLocs frame_1_statics s) 16 128 → Post tb e args s (.returned v) u) :
    ArmFor flags0 classFile x code maxLocals ret World_1 tables_1 room_1 Calls_1 rest_1 Pre_1 Post := by
  intro l hfl _ _ p e ha hc hk s m args below hf hA hF happ hP
  obtain ⟨hcalls, hrest, hpre⟩ := hP
  obtain ⟨-, -, -, hnamed, -, -, -, hat⟩ := (Spec.applies_iff hf).mp happ
  obtain ⟨hg, hn⟩ := and_e (Cond.before_iff.mp (show (Jvm.Cond.and given_1 narrow_1).before args s = true from hpre))
  obtain ⟨h1, hg1⟩ := and_e hg
  obtain ⟨w0, w1, w2, w3, w4, rfl⟩ : ∃ w0 w1 w2 w3 w4 : Value, args = #[w0, w1, w2, w3, w4] := by
    have hs : args.size = 5 := by simpa [Cond.value, given_1] using h1
    obtain ⟨L⟩ := args
    match L, hs with
    | [w0, w1, w2, w3, w4], _ => exact ⟨w0, w1, w2, w3, w4, rfl⟩
  have hw := fun d (hd : d ∈ tables_1) => atoms_spec (ws := Jvm.Cond.code x code maxLocals ret :: tables_1) hat d (List.mem_cons_of_mem _ hd)
  have hfit : Fit s := fun {y c} hc i hi => by
    obtain ⟨ha, rfl⟩ := Array.getElem?_eq_some_iff.mp hc
    have q := List.all_eq_true.mp ((Array.all_eq_true_iff_forall_mem.mp hF) _ (Array.getElem_mem ha)) i (List.mem_range.mpr hi)
    simpa [Array.getElem?_eq_getElem hi] using q
  obtain ⟨q0, hg2⟩ := and_e hg1
  obtain ⟨i0, ee0⟩ := is_v q0
  obtain rfl : w0 = (.int i0) := Option.some.inj ee0
  obtain ⟨q1, hg3⟩ := and_e hg2
  obtain ⟨i1, ee1⟩ := is_v q1
  obtain rfl : w1 = (.int i1) := Option.some.inj ee1
  obtain ⟨q2, hg4⟩ := and_e hg3
  obtain ⟨i2, ee2⟩ := is_v q2
  obtain rfl : w2 = (.int i2) := Option.some.inj ee2
  obtain ⟨q3, hg5⟩ := and_e hg4
  obtain ⟨i3, ee3⟩ := is_v q3
  obtain rfl : w3 = (.int i3) := Option.some.inj ee3
  obtain ⟨i4, ee4⟩ := is_v hg5
  obtain rfl : w4 = (.int i4) := Option.some.inj ee4
  obtain ⟨hsets, hown0⟩ := atoms_of _ (rest_1_c_eq ▸ (show rest_1_c.before _ s = true from hrest))
  obtain ⟨n1, hn2⟩ := and_e hn
  obtain ⟨n2, hn3⟩ := and_e hn2
  obtain ⟨n3, hn4⟩ := and_e hn3
  obtain ⟨n4, hn5⟩ := and_e hn4
  obtain ⟨n5, n6⟩ := and_e hn5
  obtain ⟨aA, eaA⟩ := exa_v n1
  have SaA : Sta s s.heap "com/example/ferrule/ferrule/io/CsvLayout$Header" "ABSENT" "Lcom/example/ferrule/ferrule/io/CsvLayout$Header;" (.ref aA) := Sta.start eaA (Or.inr ⟨(hw _ (List.mem_of_getElem? (i := 9) rfl)), (hw _ (List.mem_of_getElem? (i := 10) rfl))⟩)
  obtain ⟨aP, eaP⟩ := exa_v n2
  have SaP : Sta s s.heap "com/example/ferrule/ferrule/io/CsvLayout$Header" "PRESENT" "Lcom/example/ferrule/ferrule/io/CsvLayout$Header;" (.ref aP) := Sta.start eaP (Or.inr ⟨(hw _ (List.mem_of_getElem? (i := 9) rfl)), (hw _ (List.mem_of_getElem? (i := 12) rfl))⟩)
  obtain ⟨aD, eaD⟩ := exa_v n5
  have SaD : Sta s s.heap "com/example/ferrule/ferrule/io/CsvLayout$Header" "DETECTED" "Lcom/example/ferrule/ferrule/io/CsvLayout$Header;" (.ref aD) := Sta.start eaD (Or.inr ⟨(hw _ (List.mem_of_getElem? (i := 9) rfl)), (hw _ (List.mem_of_getElem? (i := 42) rfl))⟩)
  have eh := eqv_i (Term.int_eval (127)) (Cond.before_iff.mp (hsets _ (List.mem_of_getElem? (i := 3) rfl)))
  have SH : Sta s s.heap "java/lang/Integer$IntegerCache" "high" "I" (.int (127 : Int32)) := Sta.start eh (Or.inl (hsets _ (List.mem_of_getElem? (i := 1) rfl)))
  obtain ⟨ca, eca⟩ := exa_v (Cond.before_iff.mp (hsets _ (List.mem_of_getElem? (i := 5) rfl)))
  have SA : Sta s s.heap "java/lang/Integer$IntegerCache" "cache" "[Ljava/lang/Integer;" (.ref ca) := Sta.start eca (Or.inr ⟨(hw _ (List.mem_of_getElem? (i := 48) rfl)), (hsets _ (List.mem_of_getElem? (i := 2) rfl))⟩)
  obtain ⟨cc, hA0⟩ := Arr.start eca (Cond.before_iff.mp (hsets _ (List.mem_of_getElem? (i := 4) rfl)))
  have el := eqv_i (Term.int_eval (256)) (Cond.before_iff.mp (hsets _ (List.mem_of_getElem? (i := 6) rfl)))
  have hAt : s.arrayAt? ca = some cc := hA0.fin (Vm.Alike.refl _)
  have el2 : cc.slots.size < 2 ^ 31 ∧ cc.slots.size.toInt32 = (256 : Int32) := by
    by_cases q : cc.slots.size < 2 ^ 31
    · rw [len_f eca hAt q] at el
      exact ⟨q, Value.int.inj (Option.some.inj el)⟩
    · exfalso; simp [Term.eval, hAt, q] at el eca; simp [eca, hAt, q] at el
  have BX := Bxs.start (val := fun j => .int (j - (128 : Int32))) (fun idx => by simpa [Term.eval] using eca) hA0 el2.1 el2.2 (by decide) (Cond.before_iff.mp (hsets _ (List.mem_of_getElem? (i := 7) rfl))) (fun X j hj h => eqv_i (Term.sub_int (idx_at hj) (Term.int_eval (128))) h)
  obtain ⟨n, o, h1, h2, h3, _, L, rfl, ⟨rfl, N⟩, hq⟩ := rm_law l s _ hw tables_1 aD aP aA ca cc _ i0 i1 i2 i3 i4 s.heap s.heap.size (Nat.le_refl _) SaD SaP SaA (Old.start s) SH SA BX p e ha hc hk s m _ below hf ((Spec.applies_iff_loose hf).mp happ).1 ⟨rfl, State.Warmed39.refl s, rfl⟩ trivial
  refine ⟨n, _, h1, h2, h3, hpost _ _ _ _ _ _ ⟨Cond.after_iff.mpr rfl, Cond.after_iff.mpr (eq_i res_at (Term.int_eval (1)) rfl), trivial⟩ ⟨hq.1, hq.2.1, (hq.2.2.sift fun y hy => Or.inr (N y hy)).mono (by decide) (by decide)⟩⟩
theorem main_1_1 : Claimed_1_1 := comes_1 fun _ _ _ _ _ _ h hF => ⟨h.1, hF⟩
theorem main_1_2 : Claimed_1_2 := comes_1 fun _ _ _ _ _ _ h hF => ⟨h.2.1, hF⟩
end Jvm.Pilot.@@N@@
namespace Jvm.Pilot.@@N@@
open Jvm Jvm.ClassFile Sem Op Lib Jvm.Free Jvm.Stand Jvm.Pilot.@@N@@.Jvm.D
/-! MADE BY PROGRAM (witnessworld.py) out of the Statement's table words and the real class files: 19 classes; the members and pool entries that the words name. The judged class is class 1, her method 3. -/
namespace start1
open Jvm.ClassFile
def u (s : String) : CpInfo := .utf8 (stringToUtf16 s)
/-- a pool by its gaps: so many unusable entries, then the entry; so many at the end -/
def gap : Nat → List CpInfo → List CpInfo
  | 0, r => r
  | n + 1, r => .unusable :: gap n r
def poolList (es : List (Nat × CpInfo)) (last : Nat) : List CpInfo := es.foldr (fun e r => gap e.1 (e.2 :: r)) (gap last [])
def pool (es : List (Nat × CpInfo)) (last : Nat) : Array CpInfo := ⟨poolList es last⟩
def fileOf (pool : Array CpInfo) (this : Nat) (attrs : Array Attribute := #[]) (ms : Array MethodInfo := #[]) (fl : Nat := 33) (sup : Nat := 0) (ifs : Array Nat := #[]) (fds : Array FieldInfo := #[]) : ClassFile where
  minorVersion := 0
  majorVersion := 65
  constantPool := pool
  accessFlags := fl
  thisClass := this
  superClass := sup
  interfaces := ifs
  fields := fds
  methods := ms
  attributes := attrs
def plain (name : String) (sup : Option ClassId) : Class where
  name := name
  kind := .ordinary
  loader := none
  accessFlags := 33
  super := sup
  interfaces := #[]
  cf := none
  fields := #[]
  methods := #[]
  instanceTypes := #[]
  staticTypes := #[]
  resolved := #[]
  callSites := []
  init := .initialized
  statics := none
  mirror := none

def pool0 : Array CpInfo := pool [(5, u "<init>"), (0, u "()V"), (1, .class_ 10), (1, u "java/lang/Object")] 113

def k0c0 : Code := { maxStack := 0, maxLocals := 1, code := object_method_1_code, exceptionTable := #[], attributes := #[] }
def k0m0 : Method := { name := "<init>", desc := "()V", sig := { parameters := [], returnType := none }, accessFlags := 1, code := some k0c0 }
/-- java/lang/Object -/
def k0 : Class := { plain "java/lang/Object" none with
  accessFlags := 33
  interfaces := #[]
  cf := some (fileOf pool0 8 #[] #[{ accessFlags := 1, nameIndex := 5, descriptorIndex := 6, attributes := #[] }] 33 0 #[] #[])
  fields := #[]
  methods := #[k0m0]
  instanceTypes := #[]
  staticTypes := #[]
  resolved := Array.replicate 124 none
  statics := none }

def pool1 : Array CpInfo := pool [(2, .class_ 4), (1, u "java/lang/Object"), (0, u "<init>"), (0, u "()V"), (0, .integer 2147483647), (0, .fieldref 9 10), (0, .class_ 11), (0, .nameAndType 12 13), (0, u "com/example/ferrule/ferrule/io/CsvLayout$Header"), (0, u "DETECTED"), (0, u "Lcom/example/ferrule/ferrule/io/CsvLayout$Header;"), (0, .fieldref 9 15), (0, .nameAndType 16 13), (0, u "PRESENT"), (0, .fieldref 9 18), (0, .nameAndType 19 13), (0, u "ABSENT"), (0, .methodref 21 22), (0, .class_ 23), (0, .nameAndType 24 25), (0, u "com/example/ferrule/ferrule/io/CsvLayoutEqualsPinLaw"), (0, u "sep"), (0, u "(I)C"), (0, .methodref 21 27), (0, .nameAndType 28 29), (0, u "header"), (0, u "(I)Lcom/example/ferrule/ferrule/io/CsvLayout$Header;"), (0, .class_ 31), (0, u "com/example/ferrule/ferrule/io/CsvLayout"), (0, .methodref 30 33), (0, .nameAndType 5 34), (0, u "(CLcom/example/ferrule/ferrule/io/CsvLayout$Header;)V"), (0, .methodref 30 36), (0, .nameAndType 37 38), (0, u "equals"), (0, u "(Ljava/lang/Object;)Z"), (0, .methodref 40 41), (0, .class_ 42), (0, .nameAndType 43 44), (0, u "java/lang/Integer"), (0, u "valueOf"), (0, u "(I)Ljava/lang/Integer;"), (3, u "law"), (0, u "(IIIII)Z")] 4

def k1m0 : Method := { name := "<init>", desc := "()V", sig := { parameters := [], returnType := none }, accessFlags := 2, code := none }
def k1c1 : Code := { maxStack := 2, maxLocals := 2, code := method_2_code, exceptionTable := #[], attributes := #[] }
def k1m1 : Method := { name := "sep", desc := "(I)C", sig := { parameters := [.int], returnType := some .char }, accessFlags := 10, code := some k1c1 }
def k1c2 : Code := { maxStack := 2, maxLocals := 2, code := method_3_code, exceptionTable := #[], attributes := #[] }
def k1m2 : Method := { name := "header", desc := "(I)Lcom/example/ferrule/ferrule/io/CsvLayout$Header;", sig := { parameters := [.int], returnType := some (.object "com/example/ferrule/ferrule/io/CsvLayout$Header") }, accessFlags := 10, code := some k1c2 }
def k1c3 : Code := { maxStack := 4, maxLocals := 13, code := code, exceptionTable := #[], attributes := #[] }
def k1m3 : Method := { name := "law", desc := "(IIIII)Z", sig := { parameters := [.int, .int, .int, .int, .int], returnType := some .boolean }, accessFlags := 9, code := some k1c3 }
/-- com/example/ferrule/ferrule/io/CsvLayoutEqualsPinLaw -/
def k1 : Class := { plain "com/example/ferrule/ferrule/io/CsvLayoutEqualsPinLaw" (some 0) with
  accessFlags := 49
  interfaces := #[]
  cf := some (fileOf pool1 21 #[] #[{ accessFlags := 2, nameIndex := 5, descriptorIndex := 6, attributes := #[] }, { accessFlags := 10, nameIndex := 24, descriptorIndex := 25, attributes := #[] }, { accessFlags := 10, nameIndex := 28, descriptorIndex := 29, attributes := #[] }, { accessFlags := 9, nameIndex := 48, descriptorIndex := 49, attributes := #[] }] 49 2 #[] #[])
  fields := #[]
  methods := #[k1m0, k1m1, k1m2, k1m3]
  instanceTypes := #[]
  staticTypes := #[]
  resolved := Array.replicate 54 none
  statics := none }

def pool2 : Array CpInfo := pool [(1, .class_ 2), (0, u "java/lang/constant/Constable"), (0, .class_ 4), (0, u "java/lang/Object")] 6

/-- java/lang/constant/Constable -/
def k2 : Class := { plain "java/lang/constant/Constable" (some 0) with
  accessFlags := 1537
  interfaces := #[]
  cf := some (fileOf pool2 1 #[] #[] 1537 3 #[] #[])
  fields := #[]
  methods := #[]
  instanceTypes := #[]
  staticTypes := #[]
  resolved := Array.replicate 11 none
  statics := none }

def pool3 : Array CpInfo := pool [(1, .class_ 2), (0, u "java/lang/Comparable"), (0, .class_ 4), (0, u "java/lang/Object")] 7

/-- java/lang/Comparable -/
def k3 : Class := { plain "java/lang/Comparable" (some 0) with
  accessFlags := 1537
  interfaces := #[]
  cf := some (fileOf pool3 1 #[] #[] 1537 3 #[] #[])
  fields := #[]
  methods := #[]
  instanceTypes := #[]
  staticTypes := #[]
  resolved := Array.replicate 12 none
  statics := none }

def pool4 : Array CpInfo := pool [(1, .class_ 2), (0, u "java/io/Serializable"), (0, .class_ 4), (0, u "java/lang/Object")] 2

/-- java/io/Serializable -/
def k4 : Class := { plain "java/io/Serializable" (some 0) with
  accessFlags := 1537
  interfaces := #[]
  cf := some (fileOf pool4 1 #[] #[] 1537 3 #[] #[])
  fields := #[]
  methods := #[]
  instanceTypes := #[]
  staticTypes := #[]
  resolved := Array.replicate 7 none
  statics := none }

def pool5 : Array CpInfo := pool [(2, .class_ 4), (1, u "java/lang/Enum"), (0, u "name"), (0, u "Ljava/lang/String;"), (2, u "ordinal"), (0, u "I"), (1, .class_ 14), (1, u "java/lang/Object"), (4, u "hash"), (86, .class_ 108), (1, u "java/lang/Enum$EnumDesc"), (2, .class_ 112), (0, u "java/lang/constant/Constable"), (0, .class_ 114), (0, u "java/lang/Comparable"), (0, .class_ 116), (0, u "java/io/Serializable")] 87

/-- java/lang/Enum -/
def k5 : Class := { plain "java/lang/Enum" (some 0) with
  accessFlags := 1057
  interfaces := #[2, 3, 4]
  cf := some (fileOf pool5 2 #[.nestMembers #[106]] #[] 1057 12 #[111, 113, 115] #[{ accessFlags := 18, nameIndex := 5, descriptorIndex := 6, attributes := #[] }, { accessFlags := 18, nameIndex := 9, descriptorIndex := 10, attributes := #[] }, { accessFlags := 2, nameIndex := 19, descriptorIndex := 10, attributes := #[] }])
  fields := #[{ name := "name", type := (.object "java/lang/String"), accessFlags := 18, slot := 0, constantValue := 0 }, { name := "ordinal", type := .int, accessFlags := 18, slot := 1, constantValue := 0 }, { name := "hash", type := .int, accessFlags := 2, slot := 2, constantValue := 0 }]
  methods := #[]
  instanceTypes := #[(.object "java/lang/String"), .int, .int]
  staticTypes := #[]
  resolved := Array.replicate 204 none
  statics := none }

def pool6 : Array CpInfo := pool [(1, .class_ 2), (0, u "com/example/ferrule/ferrule/io/CsvLayout$Header"), (2, u "DETECTED"), (0, u "Lcom/example/ferrule/ferrule/io/CsvLayout$Header;"), (2, u "PRESENT"), (2, u "ABSENT"), (2, u "$VALUES"), (0, u "[Lcom/example/ferrule/ferrule/io/CsvLayout$Header;"), (6, .class_ 25), (1, u "java/lang/Enum"), (26, .class_ 53), (0, u "com/example/ferrule/ferrule/io/CsvLayout")] 2

/-- com/example/ferrule/ferrule/io/CsvLayout$Header -/
def k6 : Class := { plain "com/example/ferrule/ferrule/io/CsvLayout$Header" (some 5) with
  accessFlags := 16433
  interfaces := #[]
  cf := some (fileOf pool6 1 #[.nestHost 52] #[] 16433 23 #[] #[{ accessFlags := 16409, nameIndex := 5, descriptorIndex := 6, attributes := #[] }, { accessFlags := 16409, nameIndex := 9, descriptorIndex := 6, attributes := #[] }, { accessFlags := 16409, nameIndex := 12, descriptorIndex := 6, attributes := #[] }, { accessFlags := 4122, nameIndex := 15, descriptorIndex := 16, attributes := #[] }])
  fields := #[{ name := "DETECTED", type := (.object "com/example/ferrule/ferrule/io/CsvLayout$Header"), accessFlags := 16409, slot := 0, constantValue := 0 }, { name := "PRESENT", type := (.object "com/example/ferrule/ferrule/io/CsvLayout$Header"), accessFlags := 16409, slot := 1, constantValue := 0 }, { name := "ABSENT", type := (.object "com/example/ferrule/ferrule/io/CsvLayout$Header"), accessFlags := 16409, slot := 2, constantValue := 0 }, { name := "$VALUES", type := (.array (.object "com/example/ferrule/ferrule/io/CsvLayout$Header")), accessFlags := 4122, slot := 3, constantValue := 0 }]
  methods := #[]
  instanceTypes := #[(.object "java/lang/String"), .int, .int]
  staticTypes := #[(.object "com/example/ferrule/ferrule/io/CsvLayout$Header"), (.object "com/example/ferrule/ferrule/io/CsvLayout$Header"), (.object "com/example/ferrule/ferrule/io/CsvLayout$Header"), (.array (.object "com/example/ferrule/ferrule/io/CsvLayout$Header"))]
  resolved := Array.replicate 56 none
  statics := some 0 }

def pool7 : Array CpInfo := pool [(1, .methodref 2 3), (0, .class_ 4), (0, .nameAndType 5 6), (0, u "java/lang/Object"), (0, u "<init>"), (0, u "()V"), (0, .class_ 8), (0, u "java/lang/Record")] 13

def k7c0 : Code := { maxStack := 1, maxLocals := 1, code := jdk_30_method_1_code, exceptionTable := #[], attributes := #[] }
def k7m0 : Method := { name := "<init>", desc := "()V", sig := { parameters := [], returnType := none }, accessFlags := 4, code := some k7c0 }
/-- java/lang/Record -/
def k7 : Class := { plain "java/lang/Record" (some 0) with
  accessFlags := 1057
  interfaces := #[]
  cf := some (fileOf pool7 7 #[] #[{ accessFlags := 4, nameIndex := 5, descriptorIndex := 6, attributes := #[] }] 1057 2 #[] #[])
  fields := #[]
  methods := #[k7m0]
  instanceTypes := #[]
  staticTypes := #[]
  resolved := Array.replicate 22 none
  statics := none }

def pool8 : Array CpInfo := pool [(1, .methodref 2 3), (0, .class_ 4), (0, .nameAndType 5 6), (0, u "java/lang/Record"), (0, u "<init>"), (0, u "()V"), (0, .methodref 8 9), (0, .class_ 10), (0, .nameAndType 11 12), (0, u "com/example/ferrule/ferrule/io/CsvLayout"), (0, u "isSeparator"), (0, u "(C)Z"), (25, .fieldref 8 39), (0, .nameAndType 40 41), (0, u "separator"), (0, u "C"), (0, .fieldref 8 43), (0, .nameAndType 44 45), (0, u "header"), (0, u "Lcom/example/ferrule/ferrule/io/CsvLayout$Header;"), (1, .class_ 49), (1, u "com/example/ferrule/ferrule/io/CsvLayout$Header"), (11, u "(CLcom/example/ferrule/ferrule/io/CsvLayout$Header;)V"), (2, u "DEFAULT"), (0, u "Lcom/example/ferrule/ferrule/io/CsvLayout;"), (4, u "equals"), (0, u "(Ljava/lang/Object;)Z")] 36

def k8c0 : Code := { maxStack := 7, maxLocals := 3, code := prog_21_method_1_code, exceptionTable := #[], attributes := #[] }
def k8m0 : Method := { name := "<init>", desc := "(CLcom/example/ferrule/ferrule/io/CsvLayout$Header;)V", sig := { parameters := [.char, (.object "com/example/ferrule/ferrule/io/CsvLayout$Header")], returnType := none }, accessFlags := 1, code := some k8c0 }
def k8c1 : Code := { maxStack := 2, maxLocals := 3, code := prog_21_method_2_code, exceptionTable := #[], attributes := #[] }
def k8m1 : Method := { name := "equals", desc := "(Ljava/lang/Object;)Z", sig := { parameters := [(.object "java/lang/Object")], returnType := some .boolean }, accessFlags := 1, code := some k8c1 }
def k8c2 : Code := { maxStack := 2, maxLocals := 1, code := prog_21_method_4_code, exceptionTable := #[], attributes := #[] }
def k8m2 : Method := { name := "isSeparator", desc := "(C)Z", sig := { parameters := [.char], returnType := some .boolean }, accessFlags := 9, code := some k8c2 }
/-- com/example/ferrule/ferrule/io/CsvLayout -/
def k8 : Class := { plain "com/example/ferrule/ferrule/io/CsvLayout" (some 7) with
  accessFlags := 49
  interfaces := #[]
  cf := some (fileOf pool8 8 #[.nestMembers #[47]] #[{ accessFlags := 1, nameIndex := 5, descriptorIndex := 61, attributes := #[] }, { accessFlags := 1, nameIndex := 70, descriptorIndex := 71, attributes := #[] }, { accessFlags := 9, nameIndex := 11, descriptorIndex := 12, attributes := #[] }] 49 2 #[] #[{ accessFlags := 18, nameIndex := 40, descriptorIndex := 41, attributes := #[] }, { accessFlags := 18, nameIndex := 44, descriptorIndex := 45, attributes := #[] }, { accessFlags := 25, nameIndex := 64, descriptorIndex := 65, attributes := #[] }])
  fields := #[{ name := "separator", type := .char, accessFlags := 18, slot := 0, constantValue := 0 }, { name := "header", type := (.object "com/example/ferrule/ferrule/io/CsvLayout$Header"), accessFlags := 18, slot := 1, constantValue := 0 }, { name := "DEFAULT", type := (.object "com/example/ferrule/ferrule/io/CsvLayout"), accessFlags := 25, slot := 0, constantValue := 0 }]
  methods := #[k8m0, k8m1, k8m2]
  instanceTypes := #[.char, (.object "com/example/ferrule/ferrule/io/CsvLayout$Header")]
  staticTypes := #[(.object "com/example/ferrule/ferrule/io/CsvLayout")]
  resolved := Array.replicate 108 none
  statics := none }

def pool9 : Array CpInfo := pool [(1, .methodref 2 3), (0, .class_ 4), (0, .nameAndType 5 6), (0, u "java/lang/Object"), (0, u "<init>"), (0, u "()V"), (1, .class_ 10), (1, u "java/lang/Number"), (2, .class_ 14), (0, u "java/io/Serializable"), (0, u "serialVersionUID"), (0, u "J")] 20

def k9c0 : Code := { maxStack := 1, maxLocals := 1, code := jdk_18_method_1_code, exceptionTable := #[], attributes := #[] }
def k9m0 : Method := { name := "<init>", desc := "()V", sig := { parameters := [], returnType := none }, accessFlags := 1, code := some k9c0 }
/-- java/lang/Number -/
def k9 : Class := { plain "java/lang/Number" (some 0) with
  accessFlags := 1057
  interfaces := #[4]
  cf := some (fileOf pool9 8 #[] #[{ accessFlags := 1, nameIndex := 5, descriptorIndex := 6, attributes := #[] }] 1057 2 #[13] #[{ accessFlags := 26, nameIndex := 15, descriptorIndex := 16, attributes := #[] }])
  fields := #[{ name := "serialVersionUID", type := .long, accessFlags := 26, slot := 0, constantValue := 0 }]
  methods := #[k9m0]
  instanceTypes := #[]
  staticTypes := #[.long]
  resolved := Array.replicate 37 none
  statics := none }

def pool10 : Array CpInfo := pool [(1, .class_ 2), (0, u "java/lang/constant/ConstantDesc"), (0, .class_ 4), (0, u "java/lang/Object")] 32

/-- java/lang/constant/ConstantDesc -/
def k10 : Class := { plain "java/lang/constant/ConstantDesc" (some 0) with
  accessFlags := 1537
  interfaces := #[]
  cf := some (fileOf pool10 1 #[] #[] 1537 3 #[] #[])
  fields := #[]
  methods := #[]
  instanceTypes := #[]
  staticTypes := #[]
  resolved := Array.replicate 37 none
  statics := none }

def pool11 : Array CpInfo := pool [(1, .class_ 2), (0, u "java/lang/Integer"), (16, u "digits"), (0, u "[C"), (46, u "<init>"), (17, u "DigitOnes"), (0, u "[B"), (2, u "DigitTens"), (10, .nameAndType 67 101), (0, u "()V"), (85, u "valueOf"), (0, u "(I)Ljava/lang/Integer;"), (0, .class_ 190), (0, u "java/lang/Integer$IntegerCache"), (0, .fieldref 189 192), (0, .nameAndType 193 194), (0, u "high"), (0, u "I"), (0, .fieldref 189 196), (0, .nameAndType 197 198), (0, u "cache"), (0, u "[Ljava/lang/Integer;"), (0, .methodref 1 200), (0, .nameAndType 67 201), (0, u "(I)V"), (0, .methodref 203 100), (0, .class_ 204), (0, u "java/lang/Number"), (0, .fieldref 1 206), (0, .nameAndType 207 194), (0, u "value"), (94, u "TYPE"), (0, u "Ljava/lang/Class;"), (0, .class_ 305), (0, u "java/lang/Comparable"), (0, .class_ 307), (0, u "java/lang/constant/Constable"), (0, .class_ 309), (0, u "java/lang/constant/ConstantDesc"), (0, u "MIN_VALUE"), (1, u "MAX_VALUE"), (3, u "SIZE"), (1, u "BYTES"), (1, u "serialVersionUID"), (0, u "J")] 131

def k11c0 : Code := { maxStack := 3, maxLocals := 1, code := jdk_33_method_22_code, exceptionTable := #[], attributes := #[] }
def k11m0 : Method := { name := "valueOf", desc := "(I)Ljava/lang/Integer;", sig := { parameters := [.int], returnType := some (.object "java/lang/Integer") }, accessFlags := 9, code := some k11c0 }
def k11c1 : Code := { maxStack := 2, maxLocals := 2, code := jdk_33_method_23_code, exceptionTable := #[], attributes := #[] }
def k11m1 : Method := { name := "<init>", desc := "(I)V", sig := { parameters := [.int], returnType := none }, accessFlags := 1, code := some k11c1 }
/-- java/lang/Integer -/
def k11 : Class := { plain "java/lang/Integer" (some 9) with
  accessFlags := 49
  interfaces := #[3, 2, 10]
  cf := some (fileOf pool11 1 #[.nestMembers #[189]] #[{ accessFlags := 9, nameIndex := 187, descriptorIndex := 188, attributes := #[] }, { accessFlags := 1, nameIndex := 67, descriptorIndex := 201, attributes := #[] }] 49 203 #[304, 306, 308] #[{ accessFlags := 25, nameIndex := 310, descriptorIndex := 194, attributes := #[] }, { accessFlags := 25, nameIndex := 312, descriptorIndex := 194, attributes := #[] }, { accessFlags := 25, nameIndex := 302, descriptorIndex := 303, attributes := #[] }, { accessFlags := 24, nameIndex := 19, descriptorIndex := 20, attributes := #[] }, { accessFlags := 24, nameIndex := 89, descriptorIndex := 86, attributes := #[] }, { accessFlags := 24, nameIndex := 85, descriptorIndex := 86, attributes := #[] }, { accessFlags := 18, nameIndex := 207, descriptorIndex := 194, attributes := #[] }, { accessFlags := 25, nameIndex := 316, descriptorIndex := 194, attributes := #[] }, { accessFlags := 25, nameIndex := 318, descriptorIndex := 194, attributes := #[] }, { accessFlags := 26, nameIndex := 320, descriptorIndex := 321, attributes := #[] }])
  fields := #[{ name := "MIN_VALUE", type := .int, accessFlags := 25, slot := 0, constantValue := 0 }, { name := "MAX_VALUE", type := .int, accessFlags := 25, slot := 1, constantValue := 0 }, { name := "TYPE", type := (.object "java/lang/Class"), accessFlags := 25, slot := 2, constantValue := 0 }, { name := "digits", type := (.array .char), accessFlags := 24, slot := 3, constantValue := 0 }, { name := "DigitTens", type := (.array .byte), accessFlags := 24, slot := 4, constantValue := 0 }, { name := "DigitOnes", type := (.array .byte), accessFlags := 24, slot := 5, constantValue := 0 }, { name := "value", type := .int, accessFlags := 18, slot := 0, constantValue := 0 }, { name := "SIZE", type := .int, accessFlags := 25, slot := 6, constantValue := 0 }, { name := "BYTES", type := .int, accessFlags := 25, slot := 7, constantValue := 0 }, { name := "serialVersionUID", type := .long, accessFlags := 26, slot := 8, constantValue := 0 }]
  methods := #[k11m0, k11m1]
  instanceTypes := #[.int]
  staticTypes := #[.int, .int, (.object "java/lang/Class"), (.array .char), (.array .byte), (.array .byte), .int, .int, .long]
  resolved := Array.replicate 453 none
  statics := none }

def pool12 : Array CpInfo := pool [(2, .class_ 4), (1, u "java/lang/Object"), (0, u "<init>"), (0, u "()V"), (0, .class_ 8), (0, u "java/lang/Integer"), (7, .class_ 18), (1, u "java/lang/Integer$IntegerCache"), (0, u "$assertionsDisabled"), (0, u "Z"), (26, u "high"), (0, u "I"), (8, u "archivedCache"), (0, u "[Ljava/lang/Integer;"), (12, u "cache"), (0, u "low")] 27

def k12m0 : Method := { name := "<init>", desc := "()V", sig := { parameters := [], returnType := none }, accessFlags := 2, code := none }
/-- java/lang/Integer$IntegerCache -/
def k12 : Class := { plain "java/lang/Integer$IntegerCache" (some 0) with
  accessFlags := 48
  interfaces := #[]
  cf := some (fileOf pool12 16 #[.nestHost 7] #[{ accessFlags := 2, nameIndex := 5, descriptorIndex := 6, attributes := #[] }] 48 2 #[] #[{ accessFlags := 24, nameIndex := 72, descriptorIndex := 48, attributes := #[] }, { accessFlags := 24, nameIndex := 47, descriptorIndex := 48, attributes := #[] }, { accessFlags := 24, nameIndex := 71, descriptorIndex := 58, attributes := #[] }, { accessFlags := 8, nameIndex := 57, descriptorIndex := 58, attributes := #[] }, { accessFlags := 4120, nameIndex := 19, descriptorIndex := 20, attributes := #[] }])
  fields := #[{ name := "low", type := .int, accessFlags := 24, slot := 0, constantValue := 0 }, { name := "high", type := .int, accessFlags := 24, slot := 1, constantValue := 0 }, { name := "cache", type := (.array (.object "java/lang/Integer")), accessFlags := 24, slot := 2, constantValue := 0 }, { name := "archivedCache", type := (.array (.object "java/lang/Integer")), accessFlags := 8, slot := 3, constantValue := 0 }, { name := "$assertionsDisabled", type := .boolean, accessFlags := 4120, slot := 4, constantValue := 0 }]
  methods := #[k12m0]
  instanceTypes := #[]
  staticTypes := #[.int, .int, (.array (.object "java/lang/Integer")), (.array (.object "java/lang/Integer")), .boolean]
  resolved := Array.replicate 100 none
  statics := some 1 }

def pool13 : Array CpInfo := pool [(1, u "java/lang/Cloneable"), (0, .class_ 1), (0, u "java/lang/Object"), (0, .class_ 3)] 3

/-- java/lang/Cloneable -/
def k13 : Class := { plain "java/lang/Cloneable" (some 0) with
  accessFlags := 1537
  interfaces := #[]
  cf := some (fileOf pool13 2 #[] #[] 1537 4 #[] #[])
  fields := #[]
  methods := #[]
  instanceTypes := #[]
  staticTypes := #[]
  resolved := Array.replicate 8 none
  statics := none }

/-- the primitive byte -/
def k14 : Class := { plain "byte" none with kind := .primitive 'B', accessFlags := 0x411 }
/-- [B -/
def k15 : Class := { plain "[B" (some 0) with kind := .array 14 .byte, interfaces := #[13, 4], accessFlags := 1041 }

/-- the primitive int -/
def k16 : Class := { plain "int" none with kind := .primitive 'I', accessFlags := 0x411 }
/-- [I -/
def k17 : Class := { plain "[I" (some 0) with kind := .array 16 .int, interfaces := #[13, 4], accessFlags := 1041 }

/-- [Ljava/lang/Integer; -/
def k18 : Class := { plain "[Ljava/lang/Integer;" (some 0) with kind := .array 11 (.object "java/lang/Integer"), interfaces := #[13, 4], accessFlags := 1041 }

def heap : Heap := #[{ cls := 6, slots := #[.ref 259, .ref 260, .ref 261, .null], vm := .statics 6 },
  { cls := 12, slots := #[.int 0, .int 127, .ref 2, .null, .int 0], vm := .statics 12 },
  { cls := 18, slots := #[.ref 3, .ref 4, .ref 5, .ref 6, .ref 7, .ref 8, .ref 9, .ref 10, .ref 11, .ref 12, .ref 13, .ref 14, .ref 15, .ref 16, .ref 17, .ref 18, .ref 19, .ref 20, .ref 21, .ref 22, .ref 23, .ref 24, .ref 25, .ref 26, .ref 27, .ref 28, .ref 29, .ref 30, .ref 31, .ref 32, .ref 33, .ref 34, .ref 35, .ref 36, .ref 37, .ref 38, .ref 39, .ref 40, .ref 41, .ref 42, .ref 43, .ref 44, .ref 45, .ref 46, .ref 47, .ref 48, .ref 49, .ref 50, .ref 51, .ref 52, .ref 53, .ref 54, .ref 55, .ref 56, .ref 57, .ref 58, .ref 59, .ref 60, .ref 61, .ref 62, .ref 63, .ref 64, .ref 65, .ref 66, .ref 67, .ref 68, .ref 69, .ref 70, .ref 71, .ref 72, .ref 73, .ref 74, .ref 75, .ref 76, .ref 77, .ref 78, .ref 79, .ref 80, .ref 81, .ref 82, .ref 83, .ref 84, .ref 85, .ref 86, .ref 87, .ref 88, .ref 89, .ref 90, .ref 91, .ref 92, .ref 93, .ref 94, .ref 95, .ref 96, .ref 97, .ref 98, .ref 99, .ref 100, .ref 101, .ref 102, .ref 103, .ref 104, .ref 105, .ref 106, .ref 107, .ref 108, .ref 109, .ref 110, .ref 111, .ref 112, .ref 113, .ref 114, .ref 115, .ref 116, .ref 117, .ref 118, .ref 119, .ref 120, .ref 121, .ref 122, .ref 123, .ref 124, .ref 125, .ref 126, .ref 127, .ref 128, .ref 129, .ref 130, .ref 131, .ref 132, .ref 133, .ref 134, .ref 135, .ref 136, .ref 137, .ref 138, .ref 139, .ref 140, .ref 141, .ref 142, .ref 143, .ref 144, .ref 145, .ref 146, .ref 147, .ref 148, .ref 149, .ref 150, .ref 151, .ref 152, .ref 153, .ref 154, .ref 155, .ref 156, .ref 157, .ref 158, .ref 159, .ref 160, .ref 161, .ref 162, .ref 163, .ref 164, .ref 165, .ref 166, .ref 167, .ref 168, .ref 169, .ref 170, .ref 171, .ref 172, .ref 173, .ref 174, .ref 175, .ref 176, .ref 177, .ref 178, .ref 179, .ref 180, .ref 181, .ref 182, .ref 183, .ref 184, .ref 185, .ref 186, .ref 187, .ref 188, .ref 189, .ref 190, .ref 191, .ref 192, .ref 193, .ref 194, .ref 195, .ref 196, .ref 197, .ref 198, .ref 199, .ref 200, .ref 201, .ref 202, .ref 203, .ref 204, .ref 205, .ref 206, .ref 207, .ref 208, .ref 209, .ref 210, .ref 211, .ref 212, .ref 213, .ref 214, .ref 215, .ref 216, .ref 217, .ref 218, .ref 219, .ref 220, .ref 221, .ref 222, .ref 223, .ref 224, .ref 225, .ref 226, .ref 227, .ref 228, .ref 229, .ref 230, .ref 231, .ref 232, .ref 233, .ref 234, .ref 235, .ref 236, .ref 237, .ref 238, .ref 239, .ref 240, .ref 241, .ref 242, .ref 243, .ref 244, .ref 245, .ref 246, .ref 247, .ref 248, .ref 249, .ref 250, .ref 251, .ref 252, .ref 253, .ref 254, .ref 255, .ref 256, .ref 257, .ref 258], vm := .none },
  { cls := 11, slots := #[.int (-128)], vm := .none },
  { cls := 11, slots := #[.int (-127)], vm := .none },
  { cls := 11, slots := #[.int (-126)], vm := .none },
  { cls := 11, slots := #[.int (-125)], vm := .none },
  { cls := 11, slots := #[.int (-124)], vm := .none },
  { cls := 11, slots := #[.int (-123)], vm := .none },
  { cls := 11, slots := #[.int (-122)], vm := .none },
  { cls := 11, slots := #[.int (-121)], vm := .none },
  { cls := 11, slots := #[.int (-120)], vm := .none },
  { cls := 11, slots := #[.int (-119)], vm := .none },
  { cls := 11, slots := #[.int (-118)], vm := .none },
  { cls := 11, slots := #[.int (-117)], vm := .none },
  { cls := 11, slots := #[.int (-116)], vm := .none },
  { cls := 11, slots := #[.int (-115)], vm := .none },
  { cls := 11, slots := #[.int (-114)], vm := .none },
  { cls := 11, slots := #[.int (-113)], vm := .none },
  { cls := 11, slots := #[.int (-112)], vm := .none },
  { cls := 11, slots := #[.int (-111)], vm := .none },
  { cls := 11, slots := #[.int (-110)], vm := .none },
  { cls := 11, slots := #[.int (-109)], vm := .none },
  { cls := 11, slots := #[.int (-108)], vm := .none },
  { cls := 11, slots := #[.int (-107)], vm := .none },
  { cls := 11, slots := #[.int (-106)], vm := .none },
  { cls := 11, slots := #[.int (-105)], vm := .none },
  { cls := 11, slots := #[.int (-104)], vm := .none },
  { cls := 11, slots := #[.int (-103)], vm := .none },
  { cls := 11, slots := #[.int (-102)], vm := .none },
  { cls := 11, slots := #[.int (-101)], vm := .none },
  { cls := 11, slots := #[.int (-100)], vm := .none },
  { cls := 11, slots := #[.int (-99)], vm := .none },
  { cls := 11, slots := #[.int (-98)], vm := .none },
  { cls := 11, slots := #[.int (-97)], vm := .none },
  { cls := 11, slots := #[.int (-96)], vm := .none },
  { cls := 11, slots := #[.int (-95)], vm := .none },
  { cls := 11, slots := #[.int (-94)], vm := .none },
  { cls := 11, slots := #[.int (-93)], vm := .none },
  { cls := 11, slots := #[.int (-92)], vm := .none },
  { cls := 11, slots := #[.int (-91)], vm := .none },
  { cls := 11, slots := #[.int (-90)], vm := .none },
  { cls := 11, slots := #[.int (-89)], vm := .none },
  { cls := 11, slots := #[.int (-88)], vm := .none },
  { cls := 11, slots := #[.int (-87)], vm := .none },
  { cls := 11, slots := #[.int (-86)], vm := .none },
  { cls := 11, slots := #[.int (-85)], vm := .none },
  { cls := 11, slots := #[.int (-84)], vm := .none },
  { cls := 11, slots := #[.int (-83)], vm := .none },
  { cls := 11, slots := #[.int (-82)], vm := .none },
  { cls := 11, slots := #[.int (-81)], vm := .none },
  { cls := 11, slots := #[.int (-80)], vm := .none },
  { cls := 11, slots := #[.int (-79)], vm := .none },
  { cls := 11, slots := #[.int (-78)], vm := .none },
  { cls := 11, slots := #[.int (-77)], vm := .none },
  { cls := 11, slots := #[.int (-76)], vm := .none },
  { cls := 11, slots := #[.int (-75)], vm := .none },
  { cls := 11, slots := #[.int (-74)], vm := .none },
  { cls := 11, slots := #[.int (-73)], vm := .none },
  { cls := 11, slots := #[.int (-72)], vm := .none },
  { cls := 11, slots := #[.int (-71)], vm := .none },
  { cls := 11, slots := #[.int (-70)], vm := .none },
  { cls := 11, slots := #[.int (-69)], vm := .none },
  { cls := 11, slots := #[.int (-68)], vm := .none },
  { cls := 11, slots := #[.int (-67)], vm := .none },
  { cls := 11, slots := #[.int (-66)], vm := .none },
  { cls := 11, slots := #[.int (-65)], vm := .none },
  { cls := 11, slots := #[.int (-64)], vm := .none },
  { cls := 11, slots := #[.int (-63)], vm := .none },
  { cls := 11, slots := #[.int (-62)], vm := .none },
  { cls := 11, slots := #[.int (-61)], vm := .none },
  { cls := 11, slots := #[.int (-60)], vm := .none },
  { cls := 11, slots := #[.int (-59)], vm := .none },
  { cls := 11, slots := #[.int (-58)], vm := .none },
  { cls := 11, slots := #[.int (-57)], vm := .none },
  { cls := 11, slots := #[.int (-56)], vm := .none },
  { cls := 11, slots := #[.int (-55)], vm := .none },
  { cls := 11, slots := #[.int (-54)], vm := .none },
  { cls := 11, slots := #[.int (-53)], vm := .none },
  { cls := 11, slots := #[.int (-52)], vm := .none },
  { cls := 11, slots := #[.int (-51)], vm := .none },
  { cls := 11, slots := #[.int (-50)], vm := .none },
  { cls := 11, slots := #[.int (-49)], vm := .none },
  { cls := 11, slots := #[.int (-48)], vm := .none },
  { cls := 11, slots := #[.int (-47)], vm := .none },
  { cls := 11, slots := #[.int (-46)], vm := .none },
  { cls := 11, slots := #[.int (-45)], vm := .none },
  { cls := 11, slots := #[.int (-44)], vm := .none },
  { cls := 11, slots := #[.int (-43)], vm := .none },
  { cls := 11, slots := #[.int (-42)], vm := .none },
  { cls := 11, slots := #[.int (-41)], vm := .none },
  { cls := 11, slots := #[.int (-40)], vm := .none },
  { cls := 11, slots := #[.int (-39)], vm := .none },
  { cls := 11, slots := #[.int (-38)], vm := .none },
  { cls := 11, slots := #[.int (-37)], vm := .none },
  { cls := 11, slots := #[.int (-36)], vm := .none },
  { cls := 11, slots := #[.int (-35)], vm := .none },
  { cls := 11, slots := #[.int (-34)], vm := .none },
  { cls := 11, slots := #[.int (-33)], vm := .none },
  { cls := 11, slots := #[.int (-32)], vm := .none },
  { cls := 11, slots := #[.int (-31)], vm := .none },
  { cls := 11, slots := #[.int (-30)], vm := .none },
  { cls := 11, slots := #[.int (-29)], vm := .none },
  { cls := 11, slots := #[.int (-28)], vm := .none },
  { cls := 11, slots := #[.int (-27)], vm := .none },
  { cls := 11, slots := #[.int (-26)], vm := .none },
  { cls := 11, slots := #[.int (-25)], vm := .none },
  { cls := 11, slots := #[.int (-24)], vm := .none },
  { cls := 11, slots := #[.int (-23)], vm := .none },
  { cls := 11, slots := #[.int (-22)], vm := .none },
  { cls := 11, slots := #[.int (-21)], vm := .none },
  { cls := 11, slots := #[.int (-20)], vm := .none },
  { cls := 11, slots := #[.int (-19)], vm := .none },
  { cls := 11, slots := #[.int (-18)], vm := .none },
  { cls := 11, slots := #[.int (-17)], vm := .none },
  { cls := 11, slots := #[.int (-16)], vm := .none },
  { cls := 11, slots := #[.int (-15)], vm := .none },
  { cls := 11, slots := #[.int (-14)], vm := .none },
  { cls := 11, slots := #[.int (-13)], vm := .none },
  { cls := 11, slots := #[.int (-12)], vm := .none },
  { cls := 11, slots := #[.int (-11)], vm := .none },
  { cls := 11, slots := #[.int (-10)], vm := .none },
  { cls := 11, slots := #[.int (-9)], vm := .none },
  { cls := 11, slots := #[.int (-8)], vm := .none },
  { cls := 11, slots := #[.int (-7)], vm := .none },
  { cls := 11, slots := #[.int (-6)], vm := .none },
  { cls := 11, slots := #[.int (-5)], vm := .none },
  { cls := 11, slots := #[.int (-4)], vm := .none },
  { cls := 11, slots := #[.int (-3)], vm := .none },
  { cls := 11, slots := #[.int (-2)], vm := .none },
  { cls := 11, slots := #[.int (-1)], vm := .none },
  { cls := 11, slots := #[.int (0)], vm := .none },
  { cls := 11, slots := #[.int (1)], vm := .none },
  { cls := 11, slots := #[.int (2)], vm := .none },
  { cls := 11, slots := #[.int (3)], vm := .none },
  { cls := 11, slots := #[.int (4)], vm := .none },
  { cls := 11, slots := #[.int (5)], vm := .none },
  { cls := 11, slots := #[.int (6)], vm := .none },
  { cls := 11, slots := #[.int (7)], vm := .none },
  { cls := 11, slots := #[.int (8)], vm := .none },
  { cls := 11, slots := #[.int (9)], vm := .none },
  { cls := 11, slots := #[.int (10)], vm := .none },
  { cls := 11, slots := #[.int (11)], vm := .none },
  { cls := 11, slots := #[.int (12)], vm := .none },
  { cls := 11, slots := #[.int (13)], vm := .none },
  { cls := 11, slots := #[.int (14)], vm := .none },
  { cls := 11, slots := #[.int (15)], vm := .none },
  { cls := 11, slots := #[.int (16)], vm := .none },
  { cls := 11, slots := #[.int (17)], vm := .none },
  { cls := 11, slots := #[.int (18)], vm := .none },
  { cls := 11, slots := #[.int (19)], vm := .none },
  { cls := 11, slots := #[.int (20)], vm := .none },
  { cls := 11, slots := #[.int (21)], vm := .none },
  { cls := 11, slots := #[.int (22)], vm := .none },
  { cls := 11, slots := #[.int (23)], vm := .none },
  { cls := 11, slots := #[.int (24)], vm := .none },
  { cls := 11, slots := #[.int (25)], vm := .none },
  { cls := 11, slots := #[.int (26)], vm := .none },
  { cls := 11, slots := #[.int (27)], vm := .none },
  { cls := 11, slots := #[.int (28)], vm := .none },
  { cls := 11, slots := #[.int (29)], vm := .none },
  { cls := 11, slots := #[.int (30)], vm := .none },
  { cls := 11, slots := #[.int (31)], vm := .none },
  { cls := 11, slots := #[.int (32)], vm := .none },
  { cls := 11, slots := #[.int (33)], vm := .none },
  { cls := 11, slots := #[.int (34)], vm := .none },
  { cls := 11, slots := #[.int (35)], vm := .none },
  { cls := 11, slots := #[.int (36)], vm := .none },
  { cls := 11, slots := #[.int (37)], vm := .none },
  { cls := 11, slots := #[.int (38)], vm := .none },
  { cls := 11, slots := #[.int (39)], vm := .none },
  { cls := 11, slots := #[.int (40)], vm := .none },
  { cls := 11, slots := #[.int (41)], vm := .none },
  { cls := 11, slots := #[.int (42)], vm := .none },
  { cls := 11, slots := #[.int (43)], vm := .none },
  { cls := 11, slots := #[.int (44)], vm := .none },
  { cls := 11, slots := #[.int (45)], vm := .none },
  { cls := 11, slots := #[.int (46)], vm := .none },
  { cls := 11, slots := #[.int (47)], vm := .none },
  { cls := 11, slots := #[.int (48)], vm := .none },
  { cls := 11, slots := #[.int (49)], vm := .none },
  { cls := 11, slots := #[.int (50)], vm := .none },
  { cls := 11, slots := #[.int (51)], vm := .none },
  { cls := 11, slots := #[.int (52)], vm := .none },
  { cls := 11, slots := #[.int (53)], vm := .none },
  { cls := 11, slots := #[.int (54)], vm := .none },
  { cls := 11, slots := #[.int (55)], vm := .none },
  { cls := 11, slots := #[.int (56)], vm := .none },
  { cls := 11, slots := #[.int (57)], vm := .none },
  { cls := 11, slots := #[.int (58)], vm := .none },
  { cls := 11, slots := #[.int (59)], vm := .none },
  { cls := 11, slots := #[.int (60)], vm := .none },
  { cls := 11, slots := #[.int (61)], vm := .none },
  { cls := 11, slots := #[.int (62)], vm := .none },
  { cls := 11, slots := #[.int (63)], vm := .none },
  { cls := 11, slots := #[.int (64)], vm := .none },
  { cls := 11, slots := #[.int (65)], vm := .none },
  { cls := 11, slots := #[.int (66)], vm := .none },
  { cls := 11, slots := #[.int (67)], vm := .none },
  { cls := 11, slots := #[.int (68)], vm := .none },
  { cls := 11, slots := #[.int (69)], vm := .none },
  { cls := 11, slots := #[.int (70)], vm := .none },
  { cls := 11, slots := #[.int (71)], vm := .none },
  { cls := 11, slots := #[.int (72)], vm := .none },
  { cls := 11, slots := #[.int (73)], vm := .none },
  { cls := 11, slots := #[.int (74)], vm := .none },
  { cls := 11, slots := #[.int (75)], vm := .none },
  { cls := 11, slots := #[.int (76)], vm := .none },
  { cls := 11, slots := #[.int (77)], vm := .none },
  { cls := 11, slots := #[.int (78)], vm := .none },
  { cls := 11, slots := #[.int (79)], vm := .none },
  { cls := 11, slots := #[.int (80)], vm := .none },
  { cls := 11, slots := #[.int (81)], vm := .none },
  { cls := 11, slots := #[.int (82)], vm := .none },
  { cls := 11, slots := #[.int (83)], vm := .none },
  { cls := 11, slots := #[.int (84)], vm := .none },
  { cls := 11, slots := #[.int (85)], vm := .none },
  { cls := 11, slots := #[.int (86)], vm := .none },
  { cls := 11, slots := #[.int (87)], vm := .none },
  { cls := 11, slots := #[.int (88)], vm := .none },
  { cls := 11, slots := #[.int (89)], vm := .none },
  { cls := 11, slots := #[.int (90)], vm := .none },
  { cls := 11, slots := #[.int (91)], vm := .none },
  { cls := 11, slots := #[.int (92)], vm := .none },
  { cls := 11, slots := #[.int (93)], vm := .none },
  { cls := 11, slots := #[.int (94)], vm := .none },
  { cls := 11, slots := #[.int (95)], vm := .none },
  { cls := 11, slots := #[.int (96)], vm := .none },
  { cls := 11, slots := #[.int (97)], vm := .none },
  { cls := 11, slots := #[.int (98)], vm := .none },
  { cls := 11, slots := #[.int (99)], vm := .none },
  { cls := 11, slots := #[.int (100)], vm := .none },
  { cls := 11, slots := #[.int (101)], vm := .none },
  { cls := 11, slots := #[.int (102)], vm := .none },
  { cls := 11, slots := #[.int (103)], vm := .none },
  { cls := 11, slots := #[.int (104)], vm := .none },
  { cls := 11, slots := #[.int (105)], vm := .none },
  { cls := 11, slots := #[.int (106)], vm := .none },
  { cls := 11, slots := #[.int (107)], vm := .none },
  { cls := 11, slots := #[.int (108)], vm := .none },
  { cls := 11, slots := #[.int (109)], vm := .none },
  { cls := 11, slots := #[.int (110)], vm := .none },
  { cls := 11, slots := #[.int (111)], vm := .none },
  { cls := 11, slots := #[.int (112)], vm := .none },
  { cls := 11, slots := #[.int (113)], vm := .none },
  { cls := 11, slots := #[.int (114)], vm := .none },
  { cls := 11, slots := #[.int (115)], vm := .none },
  { cls := 11, slots := #[.int (116)], vm := .none },
  { cls := 11, slots := #[.int (117)], vm := .none },
  { cls := 11, slots := #[.int (118)], vm := .none },
  { cls := 11, slots := #[.int (119)], vm := .none },
  { cls := 11, slots := #[.int (120)], vm := .none },
  { cls := 11, slots := #[.int (121)], vm := .none },
  { cls := 11, slots := #[.int (122)], vm := .none },
  { cls := 11, slots := #[.int (123)], vm := .none },
  { cls := 11, slots := #[.int (124)], vm := .none },
  { cls := 11, slots := #[.int (125)], vm := .none },
  { cls := 11, slots := #[.int (126)], vm := .none },
  { cls := 11, slots := #[.int (127)], vm := .none },
  { cls := 6, slots := #[.null, .int 0, .int 0], vm := .none },
  { cls := 6, slots := #[.null, .int 1, .int 0], vm := .none },
  { cls := 6, slots := #[.null, .int 2, .int 0], vm := .none }]
def classes : Array Class := #[k0, k1, k2, k3, k4, k5, k6, k7, k8, k9, k10, k11, k12, k13, k14, k15, k16, k17, k18]
def interned : List (Array UInt16 × Addr) := []
def slotsUsed : Nat := 530
def theMethod : MethodId := ⟨1, 3⟩
def args0 : Array Value := #[.int 5, .int 7, .int 9, .int 11, .int 3]
def aboutOver (below : List Frame) : State where
  vm := { classes := classes, interned := interned.toArray }
  heap := heap
  slotsUsed := slotsUsed
  threads := #[{ frames := .invoking theMethod args0 :: below }]
def below0 : List Frame := [.native { method := ⟨0, 0⟩, args := #[] }]
def about1 : State := aboutOver below0
def p0 : Program := .bare "" "" ""
def e0 : Env := launch0.env 0 0 0
theorem w_frames : about1.frames = Frame.invoking theMethod args0 :: below0 := rfl
set_option maxRecDepth 65536 in
theorem w_args : argsFit about1.vm theMethod args0 = true := by decide +kernel
set_option maxRecDepth 65536 in
theorem w_heap : heapFits about1 = true := by decide +kernel
set_option maxRecDepth 65536 in
theorem w_runnable : about1.curStatus? = some .runnable := by decide +kernel
set_option maxRecDepth 65536 in
theorem w_alone : about1.alone = true := by decide +kernel
set_option maxRecDepth 65536 in
theorem w_named : about1.methodNamed? x = some theMethod := by decide +kernel
set_option maxRecDepth 65536 in
theorem w_hears : about1.hears theMethod below0 = true := by decide +kernel
set_option maxRecDepth 65536 in
theorem w_ripe : about1.ripe theMethod args0 below0 = true := by decide +kernel
theorem w_running : about1.status = .running := rfl
set_option maxRecDepth 65536 in
theorem w_room : about1.hasRoom e0.platform room_1 = true :=
  launch0.hasRoom_least _ room_1 (by decide +kernel) (by decide +kernel) (by decide +kernel) (by decide +kernel) (by decide +kernel) (by decide +kernel)
theorem allAtoms_all (ts : List Jvm.Cond) (a : Array Jvm.Value) (st : Jvm.State) : (allAtoms ts).before a st = ts.all (fun c => c.before a st) := by
  induction ts with
  | nil => rfl
  | cons c t ih =>
    show (Jvm.Cond.and c (allAtoms t)).before a st = _
    rw [Jvm.Cond.before_and, ih, List.all_cons]
def words1 : List Jvm.Cond := Jvm.Cond.code x code maxLocals ret :: tables_1
/-- a 'code' word, met by the world's own term for the bytes: nothing is compared byte by byte -/
theorem code_word {y : MethodName} {bytes : ByteArray} {mx : Nat} {rt : Option FieldType} {a : Array Value} {s : State} {m : MethodId} {meth : Method} {c : Code} (h1 : s.methodNamed? y = some m) (h2 : s.vm.method? m = some meth) (h3 : meth.code = some c) (h4 : c.code = bytes)
    (h5 : (c.maxLocals == mx && c.exceptionTable.isEmpty && decide (c.maxStack ≤ mostOperands) && decide (meth.sig.returnType = rt) && !meth.locks && decide (parseMethodDescriptor y.desc = some meth.sig)) = true) : (Jvm.Cond.code y bytes mx rt).before a s = true := by
  simp only [Bool.and_eq_true, beq_iff_eq, Bool.not_eq_true', decide_eq_true_eq] at h5
  obtain ⟨⟨⟨⟨⟨g1, g2⟩, g3⟩, g4⟩, g5⟩, g6⟩ := h5
  simp [Cond.before, Cond.holds, Cond.value, h1, h2, h3, h4, g1, g2, g3, g4, g5, g6]
def isCode : Jvm.Cond → Bool
  | .code _ _ _ _ => true
  | _ => false
theorem all_split {L : List Jvm.Cond} {P : Jvm.Cond → Bool} (h1 : L.all (fun c => isCode c || P c) = true) (h2 : ∀ c ∈ L.filter isCode, P c = true) : L.all P = true := by
  refine List.all_eq_true.mpr fun c hc => ?_
  have h := List.all_eq_true.mp h1 c hc
  rcases Bool.eq_false_or_eq_true (isCode c) with hi | hi
  · exact h2 c (List.mem_filter.mpr ⟨hc, hi⟩)
  · simpa [hi] using h
set_option maxRecDepth 65536 in
theorem w_c0 : (Jvm.Cond.code x code maxLocals ret).before args0 about1 = true := code_word (m := ⟨1, 3⟩) (meth := k1m3) (c := k1c3) (by decide +kernel) rfl rfl rfl (by decide +kernel)
set_option maxRecDepth 65536 in
theorem w_c1 : (Jvm.Cond.code ({ cls := "com/example/ferrule/ferrule/io/CsvLayoutEqualsPinLaw", name := "sep", desc := "(I)C" } : Jvm.MethodName) method_2_code (2 : Nat) (Option.some Jvm.ClassFile.FieldType.char)).before args0 about1 = true := code_word (m := ⟨1, 1⟩) (meth := k1m1) (c := k1c1) (by decide +kernel) rfl rfl rfl (by decide +kernel)
set_option maxRecDepth 65536 in
theorem w_c2 : (Jvm.Cond.code ({ cls := "com/example/ferrule/ferrule/io/CsvLayoutEqualsPinLaw", name := "header", desc := "(I)Lcom/example/ferrule/ferrule/io/CsvLayout$Header;" } : Jvm.MethodName) method_3_code (2 : Nat) (Option.some (Jvm.ClassFile.FieldType.object "com/example/ferrule/ferrule/io/CsvLayout$Header"))).before args0 about1 = true := code_word (m := ⟨1, 2⟩) (meth := k1m2) (c := k1c2) (by decide +kernel) rfl rfl rfl (by decide +kernel)
set_option maxRecDepth 65536 in
theorem w_c3 : (Jvm.Cond.code ({ cls := "com/example/ferrule/ferrule/io/CsvLayout", name := "<init>", desc := "(CLcom/example/ferrule/ferrule/io/CsvLayout$Header;)V" } : Jvm.MethodName) prog_21_method_1_code (3 : Nat) (Option.none : Option Jvm.ClassFile.FieldType)).before args0 about1 = true := code_word (m := ⟨8, 0⟩) (meth := k8m0) (c := k8c0) (by decide +kernel) rfl rfl rfl (by decide +kernel)
set_option maxRecDepth 65536 in
theorem w_c4 : (Jvm.Cond.code ({ cls := "java/lang/Record", name := "<init>", desc := "()V" } : Jvm.MethodName) jdk_30_method_1_code (1 : Nat) (Option.none : Option Jvm.ClassFile.FieldType)).before args0 about1 = true := code_word (m := ⟨7, 0⟩) (meth := k7m0) (c := k7c0) (by decide +kernel) rfl rfl rfl (by decide +kernel)
set_option maxRecDepth 65536 in
theorem w_c5 : (Jvm.Cond.code ({ cls := "java/lang/Object", name := "<init>", desc := "()V" } : Jvm.MethodName) object_method_1_code (1 : Nat) (Option.none : Option Jvm.ClassFile.FieldType)).before args0 about1 = true := code_word (m := ⟨0, 0⟩) (meth := k0m0) (c := k0c0) (by decide +kernel) rfl rfl rfl (by decide +kernel)
set_option maxRecDepth 65536 in
theorem w_c6 : (Jvm.Cond.code ({ cls := "com/example/ferrule/ferrule/io/CsvLayout", name := "isSeparator", desc := "(C)Z" } : Jvm.MethodName) prog_21_method_4_code (1 : Nat) (Option.some Jvm.ClassFile.FieldType.boolean)).before args0 about1 = true := code_word (m := ⟨8, 2⟩) (meth := k8m2) (c := k8c2) (by decide +kernel) rfl rfl rfl (by decide +kernel)
set_option maxRecDepth 65536 in
theorem w_c7 : (Jvm.Cond.code ({ cls := "com/example/ferrule/ferrule/io/CsvLayout", name := "equals", desc := "(Ljava/lang/Object;)Z" } : Jvm.MethodName) prog_21_method_2_code (3 : Nat) (Option.some Jvm.ClassFile.FieldType.boolean)).before args0 about1 = true := code_word (m := ⟨8, 1⟩) (meth := k8m1) (c := k8c1) (by decide +kernel) rfl rfl rfl (by decide +kernel)
set_option maxRecDepth 65536 in
theorem w_c8 : (Jvm.Cond.code ({ cls := "java/lang/Integer", name := "valueOf", desc := "(I)Ljava/lang/Integer;" } : Jvm.MethodName) jdk_33_method_22_code (1 : Nat) (Option.some (Jvm.ClassFile.FieldType.object "java/lang/Integer"))).before args0 about1 = true := code_word (m := ⟨11, 0⟩) (meth := k11m0) (c := k11c0) (by decide +kernel) rfl rfl rfl (by decide +kernel)
set_option maxRecDepth 65536 in
theorem w_c9 : (Jvm.Cond.code ({ cls := "java/lang/Integer", name := "<init>", desc := "(I)V" } : Jvm.MethodName) jdk_33_method_23_code (2 : Nat) (Option.none : Option Jvm.ClassFile.FieldType)).before args0 about1 = true := code_word (m := ⟨11, 1⟩) (meth := k11m1) (c := k11c1) (by decide +kernel) rfl rfl rfl (by decide +kernel)
set_option maxRecDepth 65536 in
theorem w_c10 : (Jvm.Cond.code ({ cls := "java/lang/Number", name := "<init>", desc := "()V" } : Jvm.MethodName) jdk_18_method_1_code (1 : Nat) (Option.none : Option Jvm.ClassFile.FieldType)).before args0 about1 = true := code_word (m := ⟨9, 0⟩) (meth := k9m0) (c := k9c0) (by decide +kernel) rfl rfl rfl (by decide +kernel)
def codes1 : List Jvm.Cond := [Jvm.Cond.code x code maxLocals ret, Jvm.Cond.code ({ cls := "com/example/ferrule/ferrule/io/CsvLayoutEqualsPinLaw", name := "sep", desc := "(I)C" } : Jvm.MethodName) method_2_code (2 : Nat) (Option.some Jvm.ClassFile.FieldType.char), Jvm.Cond.code ({ cls := "com/example/ferrule/ferrule/io/CsvLayoutEqualsPinLaw", name := "header", desc := "(I)Lcom/example/ferrule/ferrule/io/CsvLayout$Header;" } : Jvm.MethodName) method_3_code (2 : Nat) (Option.some (Jvm.ClassFile.FieldType.object "com/example/ferrule/ferrule/io/CsvLayout$Header")), Jvm.Cond.code ({ cls := "com/example/ferrule/ferrule/io/CsvLayout", name := "<init>", desc := "(CLcom/example/ferrule/ferrule/io/CsvLayout$Header;)V" } : Jvm.MethodName) prog_21_method_1_code (3 : Nat) (Option.none : Option Jvm.ClassFile.FieldType), Jvm.Cond.code ({ cls := "java/lang/Record", name := "<init>", desc := "()V" } : Jvm.MethodName) jdk_30_method_1_code (1 : Nat) (Option.none : Option Jvm.ClassFile.FieldType), Jvm.Cond.code ({ cls := "java/lang/Object", name := "<init>", desc := "()V" } : Jvm.MethodName) object_method_1_code (1 : Nat) (Option.none : Option Jvm.ClassFile.FieldType), Jvm.Cond.code ({ cls := "com/example/ferrule/ferrule/io/CsvLayout", name := "isSeparator", desc := "(C)Z" } : Jvm.MethodName) prog_21_method_4_code (1 : Nat) (Option.some Jvm.ClassFile.FieldType.boolean), Jvm.Cond.code ({ cls := "com/example/ferrule/ferrule/io/CsvLayout", name := "equals", desc := "(Ljava/lang/Object;)Z" } : Jvm.MethodName) prog_21_method_2_code (3 : Nat) (Option.some Jvm.ClassFile.FieldType.boolean), Jvm.Cond.code ({ cls := "java/lang/Integer", name := "valueOf", desc := "(I)Ljava/lang/Integer;" } : Jvm.MethodName) jdk_33_method_22_code (1 : Nat) (Option.some (Jvm.ClassFile.FieldType.object "java/lang/Integer")), Jvm.Cond.code ({ cls := "java/lang/Integer", name := "<init>", desc := "(I)V" } : Jvm.MethodName) jdk_33_method_23_code (2 : Nat) (Option.none : Option Jvm.ClassFile.FieldType), Jvm.Cond.code ({ cls := "java/lang/Number", name := "<init>", desc := "()V" } : Jvm.MethodName) jdk_18_method_1_code (1 : Nat) (Option.none : Option Jvm.ClassFile.FieldType)]
set_option maxRecDepth 65536 in
theorem codes_eq : words1.filter isCode = codes1 := rfl
theorem w_codes : ∀ c ∈ words1.filter isCode, c.before args0 about1 = true := by
  rw [codes_eq]
  intro c hc
  simp only [codes1, List.mem_cons, List.not_mem_nil, or_false] at hc
  rcases hc with rfl | rfl | rfl | rfl | rfl | rfl | rfl | rfl | rfl | rfl | rfl
  · exact w_c0
  · exact w_c1
  · exact w_c2
  · exact w_c3
  · exact w_c4
  · exact w_c5
  · exact w_c6
  · exact w_c7
  · exact w_c8
  · exact w_c9
  · exact w_c10
set_option maxRecDepth 65536 in
theorem w_t1 : (words1.take 24).all (fun c => isCode c || c.before args0 about1) = true := by decide +kernel
set_option maxRecDepth 65536 in
theorem w_t2 : ((words1.drop 24).take 24).all (fun c => isCode c || c.before args0 about1) = true := by decide +kernel
set_option maxRecDepth 65536 in
theorem w_t3 : ((words1.drop 24).drop 24).all (fun c => isCode c || c.before args0 about1) = true := by decide +kernel
theorem w_tables : (allAtoms (Jvm.Cond.code x code maxLocals ret :: tables_1)).before args0 about1 = true := by
  rw [allAtoms_all]
  show words1.all (fun c => c.before args0 about1) = true
  refine all_split ?_ w_codes
  rw [← List.take_append_drop 24 words1, List.all_append, w_t1, ← List.take_append_drop 24 (words1.drop 24), List.all_append, w_t2, w_t3]
  rfl
set_option maxRecDepth 65536 in
theorem w_rest : rest_1_c.before args0 about1 = true := by decide +kernel
set_option maxRecDepth 65536 in
theorem w_case : (Jvm.Cond.and given_1 narrow_1).before args0 about1 = true := by decide +kernel
theorem w_applies : (headSpec (Jvm.Cond.code x code maxLocals ret :: tables_1) room_1).applies x e0.platform about1 = true :=
  (Spec.applies_iff w_frames).mpr ⟨w_running, w_runnable, w_alone, w_named, w_hears, w_ripe, w_room, w_tables⟩
theorem atStart : AtStart classFile x code maxLocals ret World_1 tables_1 room_1 Calls_1 rest_1 Pre_1 launch0 p0 e0 about1 theMethod args0 below0 :=
  ⟨lists_1, trivial, launch0.admits_env _ _ _, launch0.least_env, fairChoices_fair.cas, fairChoices_fair.clock, w_frames, w_args, w_heap, w_applies, trivial, w_rest, w_case⟩
end start1
theorem witness_1 : WitnessClaimed_1 := ⟨start1.p0, start1.e0, start1.about1, start1.theMethod, start1.args0, start1.below0, start1.atStart⟩
end Jvm.Pilot.@@N@@
