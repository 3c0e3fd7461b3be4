import JvmDerived
import JvmDerived.Pilot.@@N@@Statement
import JvmDerived.Pilot.@@N@@Code
set_option linter.unusedVariables false
set_option linter.unusedSimpArgs false
@@BLOCK:NumsL.lean.txt@@
namespace Jvm.Pilot.@@N@@
open Jvm Jvm.ClassFile Sem Op Lib Jvm.Free Jvm.Stand Jvm.LawKit Jvm.RoadKit Bundle Jvm.Pilot.@@N@@.Jvm.D
/-! 1. OWN: a walk in continuation style: 'own_Goes': from this frame the run comes back with an outcome of which Q holds -/
def own_Goes (p : Program) (e : Env) (below : List Frame) (T : State) (F : JFrame) (Q : Outcome → State → Prop) : Prop := ∃ s₂ o, Steps p.tables e below (T.setTop F) s₂ ∧ s₂.status = .running ∧ Ended s₂ below o ∧ Q o s₂
def own_Ret (s : State) (K : Option Value → Heap → List Loc → Prop) (rc rs : Nat) (o : Outcome) (U' : State) : Prop := ∃ v L, o = .returned v ∧ K v U'.heap L ∧ FrameEnd s o U' L rc rs
def own_upd (f : Nat → Value) (k : Nat) (v : Value) : Nat → Value := fun i => if i = k then v else f i
/-- an array of n places at a; place j holds f j -/
def own_Arr (Z : State) (h : Heap) (a : Addr) (ty : FieldType) (n : Nat) (f : Nat → Value) : Prop := ∃ c : Cell, Arr Z h a c ty ∧ c.slots.size = n ∧ n < 2 ^ 31 ∧ ∀ j, j < n → c.slots[j]? = some (f j)
section Own
variable {p : Program} {l : Launch} {e : Env} {R : Room} {s : State} {m : MethodId} {args : Array Value} {below : List Frame} {meth : Method} {c : Code} {T : State} {locs : List Loc} {cells slots : Nat} {Z : State} {a0 : Array Value} {h h' : Heap} {Q : Outcome → State → Prop} {Ls Ls' : Array Slot} {st : List Value} {pc pc' : Nat}
theorem own_step {T' : State} {F F' : JFrame} (k : ∀ t, Steps p.tables e below (T'.setTop F') t → Steps p.tables e below (T.setTop F) t) (q : own_Goes p e below T' F' Q) : own_Goes p e below T F Q := by
  obtain ⟨s2, o, h1, h2⟩ := q
  exact ⟨s2, o, k _ h1, h2⟩
theorem own_body {y : MethodName} {bytes : ByteArray} {maxL : Nat} {rt : Option FieldType} {ws : List Jvm.Cond} {rm : Room} {as : Array Value} {h0 : Heap} {K : Option Value → Heap → List Loc → Prop} (hpl : plainFor y = true)
    (body : ∀ (p : Program) (e : Env) (s : State) (m : MethodId) (below : List Frame) (meth : Method) (c : Code) (s₁ : State), p.tables.exec = Jvm.exec → c.code = bytes → c.maxLocals = maxL → s.vm.findClass y.cls = some m.cls → meth.name = y.name → meth.sig.returnType = rt → meth.locks = false → Z.Warmed39 s.vm →
      Stand p l e rm s m as below meth c s₁ [] 0 0 → s₁.heap = h0 → own_Goes p e below s₁ (entryFrame m as maxL) (own_Ret s K rm.cells rm.slots)) :
    MetFree l y (head1 (Jvm.Cond.code y bytes maxL rt :: ws) rm) (fun a U => a = as ∧ Z.Warmed39 U.vm ∧ U.heap = h0) (fun _ _ _ _ _ => True) (fun _ U o U' => ∃ v L, o = .returned v ∧ K v U'.heap L ∧ FrameEnd U o U' L rm.cells rm.slots) := by
  refine MetFree.of_bodySF hpl hisR ?_
  intro p e s m args below meth c s₁ Bd hml0 hP hK
  obtain ⟨rfl, hZ, hh⟩ := hP
  exact body p e s m below meth c s₁ Bd.exec Bd.bytes hml0 (findClass_of_methodNamed Bd.named) (name_of_methodNamed Bd.named Bd.method).1 Bd.returns Bd.notSynchronized hZ (Stand.of_body Bd) (by rw [← hh, Bd.state]; rfl)
theorem own_iload (X : Stand p l e R s m args below meth c T locs cells slots) (hx : p.tables.exec = Jvm.exec) {k : Nat} {v : Int32} (hp : pc + 2 = pc') (hd : decode c.code pc = .ok (.iload k, 2)) (hl : Ls[k]? = some (.val (.int v))) (k : own_Goes p e below T (mkF m pc' Ls (.int v :: st)) Q) : own_Goes p e below T (mkF m pc Ls st) Q := by
  subst hp; exact own_step (fun _ q => XS.iload X.here hx rfl hd hl q) k
theorem own_iloadN (X : Stand p l e R s m args below meth c T locs cells slots) (hx : p.tables.exec = Jvm.exec) {k : Fin 4} {v : Int32} (hp : pc + 1 = pc') (hd : decode c.code pc = .ok (.iload_n k, 1)) (hl : Ls[k.val]? = some (.val (.int v))) (k : own_Goes p e below T (mkF m pc' Ls (.int v :: st)) Q) : own_Goes p e below T (mkF m pc Ls st) Q := by
  subst hp; exact own_step (fun _ q => XS.iloadN X.here hx rfl hd hl q) k
theorem own_istore (X : Stand p l e R s m args below meth c T locs cells slots) (hx : p.tables.exec = Jvm.exec) {k : Nat} {v : Int32} (hp : pc + 2 = pc') (hd : decode c.code pc = .ok (.istore k, 2)) (hl : storeLocals Ls k (.int v) = some Ls') (k : own_Goes p e below T (mkF m pc' Ls' st) Q) : own_Goes p e below T (mkF m pc Ls (.int v :: st)) Q := by
  subst hp; exact own_step (fun _ q => XS.istore X.here hx rfl hd rfl hl q) k
theorem own_istoreN (X : Stand p l e R s m args below meth c T locs cells slots) (hx : p.tables.exec = Jvm.exec) {k : Fin 4} {v : Int32} (hp : pc + 1 = pc') (hd : decode c.code pc = .ok (.istore_n k, 1)) (hl : storeLocals Ls k.val (.int v) = some Ls') (k : own_Goes p e below T (mkF m pc' Ls' st) Q) : own_Goes p e below T (mkF m pc Ls (.int v :: st)) Q := by
  subst hp; exact own_step (fun _ q => XS.istoreN X.here hx rfl hd rfl hl q) k
theorem own_lload (X : Stand p l e R s m args below meth c T locs cells slots) (hx : p.tables.exec = Jvm.exec) {k : Nat} {v : Int64} (hp : pc + 2 = pc') (hd : decode c.code pc = .ok (.lload k, 2)) (hl : Ls[k]? = some (.val (.long v))) (k : own_Goes p e below T (mkF m pc' Ls (.long v :: st)) Q) : own_Goes p e below T (mkF m pc Ls st) Q := by
  subst hp; exact own_step (fun _ q => XT.lload X.here hx rfl hd hl q) k
theorem own_lloadN (X : Stand p l e R s m args below meth c T locs cells slots) (hx : p.tables.exec = Jvm.exec) {k : Fin 4} {v : Int64} (hp : pc + 1 = pc') (hd : decode c.code pc = .ok (.lload_n k, 1)) (hl : Ls[k.val]? = some (.val (.long v))) (k : own_Goes p e below T (mkF m pc' Ls (.long v :: st)) Q) : own_Goes p e below T (mkF m pc Ls st) Q := by
  subst hp; exact own_step (fun _ q => XT.lloadN X.here hx rfl hd hl q) k
theorem own_lstore (X : Stand p l e R s m args below meth c T locs cells slots) (hx : p.tables.exec = Jvm.exec) {k : Nat} {v : Int64} (hp : pc + 2 = pc') (hd : decode c.code pc = .ok (.lstore k, 2)) (hl : storeLocals Ls k (.long v) = some Ls') (k : own_Goes p e below T (mkF m pc' Ls' st) Q) : own_Goes p e below T (mkF m pc Ls (.long v :: st)) Q := by
  subst hp; exact own_step (fun _ q => XT.lstore X.here hx rfl hd rfl hl q) k
theorem own_lstoreN (X : Stand p l e R s m args below meth c T locs cells slots) (hx : p.tables.exec = Jvm.exec) {k : Fin 4} {v : Int64} (hp : pc + 1 = pc') (hd : decode c.code pc = .ok (.lstore_n k, 1)) (hl : storeLocals Ls k.val (.long v) = some Ls') (k : own_Goes p e below T (mkF m pc' Ls' st) Q) : own_Goes p e below T (mkF m pc Ls (.long v :: st)) Q := by
  subst hp; exact own_step (fun _ q => XT.lstoreN X.here hx rfl hd rfl hl q) k
theorem own_aload (X : Stand p l e R s m args below meth c T locs cells slots) (hx : p.tables.exec = Jvm.exec) {k : Nat} {v : Value} (hp : pc + 2 = pc') (hd : decode c.code pc = .ok (.aload k, 2)) (hl : Ls[k]? = some (.val v)) (hv : v.isRef = true) (k : own_Goes p e below T (mkF m pc' Ls (v :: st)) Q) : own_Goes p e below T (mkF m pc Ls st) Q := by
  subst hp; exact own_step (fun _ q => XS.aload X.here hx rfl hd hl hv q) k
theorem own_aloadN (X : Stand p l e R s m args below meth c T locs cells slots) (hx : p.tables.exec = Jvm.exec) {k : Fin 4} {v : Value} (hp : pc + 1 = pc') (hd : decode c.code pc = .ok (.aload_n k, 1)) (hl : Ls[k.val]? = some (.val v)) (hv : v.isRef = true) (k : own_Goes p e below T (mkF m pc' Ls (v :: st)) Q) : own_Goes p e below T (mkF m pc Ls st) Q := by
  subst hp; exact own_step (fun _ q => XS.aloadN X.here hx rfl hd hl hv q) k
theorem own_astore (X : Stand p l e R s m args below meth c T locs cells slots) (hx : p.tables.exec = Jvm.exec) {k : Nat} {v : Value} (hp : pc + 2 = pc') (hd : decode c.code pc = .ok (.astore k, 2)) (hv : v.isRef = true) (hl : storeLocals Ls k v = some Ls') (k : own_Goes p e below T (mkF m pc' Ls' st) Q) : own_Goes p e below T (mkF m pc Ls (v :: st)) Q := by
  subst hp; exact own_step (fun _ q => XS.astore X.here hx rfl hd rfl hv hl q) k
theorem own_astoreN (X : Stand p l e R s m args below meth c T locs cells slots) (hx : p.tables.exec = Jvm.exec) {k : Fin 4} {v : Value} (hp : pc + 1 = pc') (hd : decode c.code pc = .ok (.astore_n k, 1)) (hv : v.isRef = true) (hl : storeLocals Ls k.val v = some Ls') (k : own_Goes p e below T (mkF m pc' Ls' st) Q) : own_Goes p e below T (mkF m pc Ls (v :: st)) Q := by
  subst hp; exact own_step (fun _ q => XS.astoreN X.here hx rfl hd rfl hv hl q) k
theorem own_iconst (X : Stand p l e R s m args below meth c T locs cells slots) (hx : p.tables.exec = Jvm.exec) {i : Int} {v : Int32} (hp : pc + 1 = pc') (hd : decode c.code pc = .ok (.iconst i, 1)) (hv : Int32.ofInt i = v) (k : own_Goes p e below T (mkF m pc' Ls (.int v :: st)) Q) : own_Goes p e below T (mkF m pc Ls st) Q := by
  subst hp; subst hv; exact own_step (fun _ q => XS.iconst X.here hx rfl hd  q) k
theorem own_bipush (X : Stand p l e R s m args below meth c T locs cells slots) (hx : p.tables.exec = Jvm.exec) {i : Int} {v : Int32} (hp : pc + 2 = pc') (hd : decode c.code pc = .ok (.bipush i, 2)) (hv : (Int8.ofInt i).toInt32 = v) (k : own_Goes p e below T (mkF m pc' Ls (.int v :: st)) Q) : own_Goes p e below T (mkF m pc Ls st) Q := by
  subst hp; subst hv; exact own_step (fun _ q => XS.bipush X.here hx rfl hd  q) k
theorem own_sipush (X : Stand p l e R s m args below meth c T locs cells slots) (hx : p.tables.exec = Jvm.exec) {i : Int} {v : Int32} (hp : pc + 3 = pc') (hd : decode c.code pc = .ok (.sipush i, 3)) (hv : (Int16.ofInt i).toInt32 = v) (k : own_Goes p e below T (mkF m pc' Ls (.int v :: st)) Q) : own_Goes p e below T (mkF m pc Ls st) Q := by
  subst hp; subst hv; exact own_step (fun _ q => XS.sipush X.here hx rfl hd  q) k
theorem own_lconst (X : Stand p l e R s m args below meth c T locs cells slots) (hx : p.tables.exec = Jvm.exec) {i : Fin 2} {v : Int64} (hp : pc + 1 = pc') (hd : decode c.code pc = .ok (.lconst i, 1)) (hv : Int64.ofNat i = v) (k : own_Goes p e below T (mkF m pc' Ls (.long v :: st)) Q) : own_Goes p e below T (mkF m pc Ls st) Q := by
  subst hp; subst hv; exact own_step (fun _ q => XT.lconst X.here hx rfl hd  q) k
theorem own_anull (X : Stand p l e R s m args below meth c T locs cells slots) (hx : p.tables.exec = Jvm.exec)  (hp : pc + 1 = pc') (hd : decode c.code pc = .ok (.aconst_null, 1))  (k : own_Goes p e below T (mkF m pc' Ls (.null :: st)) Q) : own_Goes p e below T (mkF m pc Ls st) Q := by
  subst hp; exact own_step (fun _ q => XS.aconstNull X.here hx rfl hd  q) k
theorem own_iadd (X : Stand p l e R s m args below meth c T locs cells slots) (hx : p.tables.exec = Jvm.exec) {x y v : Int32} (hp : pc + 1 = pc') (hd : decode c.code pc = .ok (.iadd, 1)) (hv : x + y = v) (k : own_Goes p e below T (mkF m pc' Ls (.int v :: st)) Q) : own_Goes p e below T (mkF m pc Ls (.int y :: .int x :: st)) Q := by
  subst hp; subst hv; exact own_step (fun _ q => XS.iadd X.here hx rfl hd rfl q) k
theorem own_isub (X : Stand p l e R s m args below meth c T locs cells slots) (hx : p.tables.exec = Jvm.exec) {x y v : Int32} (hp : pc + 1 = pc') (hd : decode c.code pc = .ok (.isub, 1)) (hv : x - y = v) (k : own_Goes p e below T (mkF m pc' Ls (.int v :: st)) Q) : own_Goes p e below T (mkF m pc Ls (.int y :: .int x :: st)) Q := by
  subst hp; subst hv; exact own_step (fun _ q => XS.isub X.here hx rfl hd rfl q) k
theorem own_imul (X : Stand p l e R s m args below meth c T locs cells slots) (hx : p.tables.exec = Jvm.exec) {x y v : Int32} (hp : pc + 1 = pc') (hd : decode c.code pc = .ok (.imul, 1)) (hv : x * y = v) (k : own_Goes p e below T (mkF m pc' Ls (.int v :: st)) Q) : own_Goes p e below T (mkF m pc Ls (.int y :: .int x :: st)) Q := by
  subst hp; subst hv; exact own_step (fun _ q => XS.imul X.here hx rfl hd rfl q) k
theorem own_iand (X : Stand p l e R s m args below meth c T locs cells slots) (hx : p.tables.exec = Jvm.exec) {x y v : Int32} (hp : pc + 1 = pc') (hd : decode c.code pc = .ok (.iand, 1)) (hv : x &&& y = v) (k : own_Goes p e below T (mkF m pc' Ls (.int v :: st)) Q) : own_Goes p e below T (mkF m pc Ls (.int y :: .int x :: st)) Q := by
  subst hp; subst hv; exact own_step (fun _ q => XS.iand X.here hx rfl hd rfl q) k
theorem own_ior (X : Stand p l e R s m args below meth c T locs cells slots) (hx : p.tables.exec = Jvm.exec) {x y v : Int32} (hp : pc + 1 = pc') (hd : decode c.code pc = .ok (.ior, 1)) (hv : x ||| y = v) (k : own_Goes p e below T (mkF m pc' Ls (.int v :: st)) Q) : own_Goes p e below T (mkF m pc Ls (.int y :: .int x :: st)) Q := by
  subst hp; subst hv; exact own_step (fun _ q => XT.ior X.here hx rfl hd rfl q) k
theorem own_ixor (X : Stand p l e R s m args below meth c T locs cells slots) (hx : p.tables.exec = Jvm.exec) {x y v : Int32} (hp : pc + 1 = pc') (hd : decode c.code pc = .ok (.ixor, 1)) (hv : x ^^^ y = v) (k : own_Goes p e below T (mkF m pc' Ls (.int v :: st)) Q) : own_Goes p e below T (mkF m pc Ls (.int y :: .int x :: st)) Q := by
  subst hp; subst hv; exact own_step (fun _ q => XT.ixor X.here hx rfl hd rfl q) k
theorem own_ishl (X : Stand p l e R s m args below meth c T locs cells slots) (hx : p.tables.exec = Jvm.exec) {x y v : Int32} (hp : pc + 1 = pc') (hd : decode c.code pc = .ok (.ishl, 1)) (hv : x <<< (y &&& 31) = v) (k : own_Goes p e below T (mkF m pc' Ls (.int v :: st)) Q) : own_Goes p e below T (mkF m pc Ls (.int y :: .int x :: st)) Q := by
  subst hp; subst hv; exact own_step (fun _ q => XT.ishl X.here hx rfl hd rfl q) k
theorem own_ishr (X : Stand p l e R s m args below meth c T locs cells slots) (hx : p.tables.exec = Jvm.exec) {x y v : Int32} (hp : pc + 1 = pc') (hd : decode c.code pc = .ok (.ishr, 1)) (hv : x >>> (y &&& 31) = v) (k : own_Goes p e below T (mkF m pc' Ls (.int v :: st)) Q) : own_Goes p e below T (mkF m pc Ls (.int y :: .int x :: st)) Q := by
  subst hp; subst hv; exact own_step (fun _ q => XT.ishr X.here hx rfl hd rfl q) k
theorem own_iushr (X : Stand p l e R s m args below meth c T locs cells slots) (hx : p.tables.exec = Jvm.exec) {x y v : Int32} (hp : pc + 1 = pc') (hd : decode c.code pc = .ok (.iushr, 1)) (hv : XT.ushr x y = v) (k : own_Goes p e below T (mkF m pc' Ls (.int v :: st)) Q) : own_Goes p e below T (mkF m pc Ls (.int y :: .int x :: st)) Q := by
  subst hp; subst hv; exact own_step (fun _ q => XT.iushr X.here hx rfl hd rfl q) k
theorem own_idiv (X : Stand p l e R s m args below meth c T locs cells slots) (hx : p.tables.exec = Jvm.exec) {x y v : Int32} (hp : pc + 1 = pc') (hd : decode c.code pc = .ok (.idiv, 1)) (hy : y ≠ 0) (hv : x / y = v) (k : own_Goes p e below T (mkF m pc' Ls (.int v :: st)) Q) : own_Goes p e below T (mkF m pc Ls (.int y :: .int x :: st)) Q := by
  subst hp; subst hv; exact own_step (fun _ q => XS.idiv X.here hx rfl hd rfl hy q) k
theorem own_irem (X : Stand p l e R s m args below meth c T locs cells slots) (hx : p.tables.exec = Jvm.exec) {x y v : Int32} (hp : pc + 1 = pc') (hd : decode c.code pc = .ok (.irem, 1)) (hy : y ≠ 0) (hv : x % y = v) (k : own_Goes p e below T (mkF m pc' Ls (.int v :: st)) Q) : own_Goes p e below T (mkF m pc Ls (.int y :: .int x :: st)) Q := by
  subst hp; subst hv; exact own_step (fun _ q => iremM X hx rfl hd rfl hy q) k
theorem own_ladd (X : Stand p l e R s m args below meth c T locs cells slots) (hx : p.tables.exec = Jvm.exec) {x y v : Int64} (hp : pc + 1 = pc') (hd : decode c.code pc = .ok (.ladd, 1)) (hv : x + y = v) (k : own_Goes p e below T (mkF m pc' Ls (.long v :: st)) Q) : own_Goes p e below T (mkF m pc Ls (.long y :: .long x :: st)) Q := by
  subst hp; subst hv; exact own_step (fun _ q => XT.ladd X.here hx rfl hd rfl q) k
theorem own_lsub (X : Stand p l e R s m args below meth c T locs cells slots) (hx : p.tables.exec = Jvm.exec) {x y v : Int64} (hp : pc + 1 = pc') (hd : decode c.code pc = .ok (.lsub, 1)) (hv : x - y = v) (k : own_Goes p e below T (mkF m pc' Ls (.long v :: st)) Q) : own_Goes p e below T (mkF m pc Ls (.long y :: .long x :: st)) Q := by
  subst hp; subst hv; exact own_step (fun _ q => XT.lsub X.here hx rfl hd rfl q) k
theorem own_lmul (X : Stand p l e R s m args below meth c T locs cells slots) (hx : p.tables.exec = Jvm.exec) {x y v : Int64} (hp : pc + 1 = pc') (hd : decode c.code pc = .ok (.lmul, 1)) (hv : x * y = v) (k : own_Goes p e below T (mkF m pc' Ls (.long v :: st)) Q) : own_Goes p e below T (mkF m pc Ls (.long y :: .long x :: st)) Q := by
  subst hp; subst hv; exact own_step (fun _ q => XT.lmul X.here hx rfl hd rfl q) k
theorem own_land (X : Stand p l e R s m args below meth c T locs cells slots) (hx : p.tables.exec = Jvm.exec) {x y v : Int64} (hp : pc + 1 = pc') (hd : decode c.code pc = .ok (.land, 1)) (hv : x &&& y = v) (k : own_Goes p e below T (mkF m pc' Ls (.long v :: st)) Q) : own_Goes p e below T (mkF m pc Ls (.long y :: .long x :: st)) Q := by
  subst hp; subst hv; exact own_step (fun _ q => XT.land X.here hx rfl hd rfl q) k
theorem own_lor (X : Stand p l e R s m args below meth c T locs cells slots) (hx : p.tables.exec = Jvm.exec) {x y v : Int64} (hp : pc + 1 = pc') (hd : decode c.code pc = .ok (.lor, 1)) (hv : x ||| y = v) (k : own_Goes p e below T (mkF m pc' Ls (.long v :: st)) Q) : own_Goes p e below T (mkF m pc Ls (.long y :: .long x :: st)) Q := by
  subst hp; subst hv; exact own_step (fun _ q => XT.lor X.here hx rfl hd rfl q) k
theorem own_lxor (X : Stand p l e R s m args below meth c T locs cells slots) (hx : p.tables.exec = Jvm.exec) {x y v : Int64} (hp : pc + 1 = pc') (hd : decode c.code pc = .ok (.lxor, 1)) (hv : x ^^^ y = v) (k : own_Goes p e below T (mkF m pc' Ls (.long v :: st)) Q) : own_Goes p e below T (mkF m pc Ls (.long y :: .long x :: st)) Q := by
  subst hp; subst hv; exact own_step (fun _ q => XT.lxor X.here hx rfl hd rfl q) k
theorem own_ldiv (X : Stand p l e R s m args below meth c T locs cells slots) (hx : p.tables.exec = Jvm.exec) {x y v : Int64} (hp : pc + 1 = pc') (hd : decode c.code pc = .ok (.ldiv, 1)) (hy : y ≠ 0) (hv : x / y = v) (k : own_Goes p e below T (mkF m pc' Ls (.long v :: st)) Q) : own_Goes p e below T (mkF m pc Ls (.long y :: .long x :: st)) Q := by
  subst hp; subst hv; exact own_step (fun _ q => XT.ldiv X.here hx rfl hd rfl hy q) k
theorem own_ineg (X : Stand p l e R s m args below meth c T locs cells slots) (hx : p.tables.exec = Jvm.exec) {x v : Int32} (hp : pc + 1 = pc') (hd : decode c.code pc = .ok (.ineg, 1)) (hv : -x = v) (k : own_Goes p e below T (mkF m pc' Ls (.int v :: st)) Q) : own_Goes p e below T (mkF m pc Ls (.int x :: st)) Q := by
  subst hp; subst hv; exact own_step (fun _ q => XS.ineg X.here hx rfl hd rfl q) k
theorem own_lneg (X : Stand p l e R s m args below meth c T locs cells slots) (hx : p.tables.exec = Jvm.exec) {x v : Int64} (hp : pc + 1 = pc') (hd : decode c.code pc = .ok (.lneg, 1)) (hv : -x = v) (k : own_Goes p e below T (mkF m pc' Ls (.long v :: st)) Q) : own_Goes p e below T (mkF m pc Ls (.long x :: st)) Q := by
  subst hp; subst hv; exact own_step (fun _ q => XT.lneg X.here hx rfl hd rfl q) k
theorem own_i2l (X : Stand p l e R s m args below meth c T locs cells slots) (hx : p.tables.exec = Jvm.exec) {x : Int32} {v : Int64} (hp : pc + 1 = pc') (hd : decode c.code pc = .ok (.i2l, 1)) (hv : x.toInt64 = v) (k : own_Goes p e below T (mkF m pc' Ls (.long v :: st)) Q) : own_Goes p e below T (mkF m pc Ls (.int x :: st)) Q := by
  subst hp; subst hv; exact own_step (fun _ q => XT.i2l X.here hx rfl hd rfl q) k
theorem own_l2i (X : Stand p l e R s m args below meth c T locs cells slots) (hx : p.tables.exec = Jvm.exec) {x : Int64} {v : Int32} (hp : pc + 1 = pc') (hd : decode c.code pc = .ok (.l2i, 1)) (hv : x.toInt32 = v) (k : own_Goes p e below T (mkF m pc' Ls (.int v :: st)) Q) : own_Goes p e below T (mkF m pc Ls (.long x :: st)) Q := by
  subst hp; subst hv; exact own_step (fun _ q => XT.l2i X.here hx rfl hd rfl q) k
theorem own_i2b (X : Stand p l e R s m args below meth c T locs cells slots) (hx : p.tables.exec = Jvm.exec) {x v : Int32} (hp : pc + 1 = pc') (hd : decode c.code pc = .ok (.i2b, 1)) (hv : x.toInt8.toInt32 = v) (k : own_Goes p e below T (mkF m pc' Ls (.int v :: st)) Q) : own_Goes p e below T (mkF m pc Ls (.int x :: st)) Q := by
  subst hp; subst hv; exact own_step (fun _ q => XT.i2b X.here hx rfl hd rfl q) k
theorem own_i2c (X : Stand p l e R s m args below meth c T locs cells slots) (hx : p.tables.exec = Jvm.exec) {x v : Int32} (hp : pc + 1 = pc') (hd : decode c.code pc = .ok (.i2c, 1)) (hv : x.toUInt32.toUInt16.toUInt32.toInt32 = v) (k : own_Goes p e below T (mkF m pc' Ls (.int v :: st)) Q) : own_Goes p e below T (mkF m pc Ls (.int x :: st)) Q := by
  subst hp; subst hv; exact own_step (fun _ q => XT.i2c X.here hx rfl hd rfl q) k
theorem own_i2s (X : Stand p l e R s m args below meth c T locs cells slots) (hx : p.tables.exec = Jvm.exec) {x v : Int32} (hp : pc + 1 = pc') (hd : decode c.code pc = .ok (.i2s, 1)) (hv : x.toInt16.toInt32 = v) (k : own_Goes p e below T (mkF m pc' Ls (.int v :: st)) Q) : own_Goes p e below T (mkF m pc Ls (.int x :: st)) Q := by
  subst hp; subst hv; exact own_step (fun _ q => XT.i2s X.here hx rfl hd rfl q) k
theorem own_lcmp (X : Stand p l e R s m args below meth c T locs cells slots) (hx : p.tables.exec = Jvm.exec) {x y : Int64} (hp : pc + 1 = pc') (hd : decode c.code pc = .ok (.lcmp, 1))  (k : own_Goes p e below T (mkF m pc' Ls (.int (XT.cmpL x y) :: st)) Q) : own_Goes p e below T (mkF m pc Ls (.long y :: .long x :: st)) Q := by
  subst hp; exact own_step (fun _ q => XT.lcmp X.here hx rfl hd rfl q) k
theorem own_iinc (X : Stand p l e R s m args below meth c T locs cells slots) (hx : p.tables.exec = Jvm.exec) {n : Nat} {i : Int} {x v : Int32} (hp : pc + 3 = pc') (hd : decode c.code pc = .ok (.iinc n i, 3)) (hl : Ls[n]? = some (.val (.int x))) (hv : x + Int32.ofInt i = v) (hl' : storeLocals Ls n (.int v) = some Ls') (k : own_Goes p e below T (mkF m pc' Ls' st) Q) : own_Goes p e below T (mkF m pc Ls st) Q := by
  subst hp; subst hv; exact own_step (fun _ q => XS.iinc X.here hx rfl hd hl hl' q) k
theorem own_dup (X : Stand p l e R s m args below meth c T locs cells slots) (hx : p.tables.exec = Jvm.exec) {x : Value} (hp : pc + 1 = pc') (hd : decode c.code pc = .ok (.dup, 1)) (hc : x.category = 1) (k : own_Goes p e below T (mkF m pc' Ls (x :: x :: st)) Q) : own_Goes p e below T (mkF m pc Ls (x :: st)) Q := by
  subst hp; exact own_step (fun _ q => XS.dup X.here hx rfl hd rfl hc q) k
theorem own_pop (X : Stand p l e R s m args below meth c T locs cells slots) (hx : p.tables.exec = Jvm.exec) {x : Value} (hp : pc + 1 = pc') (hd : decode c.code pc = .ok (.pop, 1)) (hc : x.category = 1) (k : own_Goes p e below T (mkF m pc' Ls st) Q) : own_Goes p e below T (mkF m pc Ls (x :: st)) Q := by
  subst hp; exact own_step (fun _ q => XT.pop X.here hx rfl hd rfl hc q) k
theorem own_goto (X : Stand p l e R s m args below meth c T locs cells slots) (hx : p.tables.exec = Jvm.exec) {o : Int} (hd : decode c.code pc = .ok (.goto o, 3)) (ho : 0 ≤ (pc : Int) + o) (hp : ((pc : Int) + o).toNat = pc') (k : own_Goes p e below T (mkF m pc' Ls st) Q) : own_Goes p e below T (mkF m pc Ls st) Q := own_step (fun _ q => XS.goto X.here hx rfl (pc0 := pc) (pc' := pc') rfl hd ho hp q) k
theorem own_ifT (X : Stand p l e R s m args below meth c T locs cells slots) (hx : p.tables.exec = Jvm.exec) {cd : ClassFile.Cond} {x : Int32} {o : Int} (hd : decode c.code pc = .ok (.ifCond cd o, 3)) (hc : ifCond.holds cd x = true) (ho : 0 ≤ (pc : Int) + o) (hp : ((pc : Int) + o).toNat = pc') (k : own_Goes p e below T (mkF m pc' Ls st) Q) : own_Goes p e below T (mkF m pc Ls (.int x :: st)) Q := own_step (fun _ q => XS.ifYes X.here hx rfl (pc0 := pc) (pc' := pc') rfl hd rfl hc ho hp q) k
theorem own_ifF (X : Stand p l e R s m args below meth c T locs cells slots) (hx : p.tables.exec = Jvm.exec) {cd : ClassFile.Cond} {x : Int32} {o : Int} (hp : pc + 3 = pc') (hd : decode c.code pc = .ok (.ifCond cd o, 3)) (hc : ifCond.holds cd x = false) (k : own_Goes p e below T (mkF m pc' Ls st) Q) : own_Goes p e below T (mkF m pc Ls (.int x :: st)) Q := by
  subst hp; exact own_step (fun _ q => XS.ifNo X.here hx rfl hd rfl hc q) k
theorem own_icmpT (X : Stand p l e R s m args below meth c T locs cells slots) (hx : p.tables.exec = Jvm.exec) {cd : ClassFile.Cond} {x y : Int32} {o : Int} (hd : decode c.code pc = .ok (.if_icmp cd o, 3)) (hc : if_icmp.holds cd x y = true) (ho : 0 ≤ (pc : Int) + o) (hp : ((pc : Int) + o).toNat = pc') (k : own_Goes p e below T (mkF m pc' Ls st) Q) : own_Goes p e below T (mkF m pc Ls (.int y :: .int x :: st)) Q := own_step (fun _ q => XS.icmpYes X.here hx rfl (pc0 := pc) (pc' := pc') rfl hd rfl hc ho hp q) k
theorem own_icmpF (X : Stand p l e R s m args below meth c T locs cells slots) (hx : p.tables.exec = Jvm.exec) {cd : ClassFile.Cond} {x y : Int32} {o : Int} (hp : pc + 3 = pc') (hd : decode c.code pc = .ok (.if_icmp cd o, 3)) (hc : if_icmp.holds cd x y = false) (k : own_Goes p e below T (mkF m pc' Ls st) Q) : own_Goes p e below T (mkF m pc Ls (.int y :: .int x :: st)) Q := by
  subst hp; exact own_step (fun _ q => XS.icmpNo X.here hx rfl hd rfl hc q) k
theorem own_acmpT (X : Stand p l e R s m args below meth c T locs cells slots) (hx : p.tables.exec = Jvm.exec) {cd : ClassFile.ACond} {x y : Value} {o : Int} (hd : decode c.code pc = .ok (.if_acmp cd o, 3)) (h1 : x.isRef = true) (h2 : y.isRef = true) (hc : XT.acmp cd x y = true) (ho : 0 ≤ (pc : Int) + o) (hp : ((pc : Int) + o).toNat = pc') (k : own_Goes p e below T (mkF m pc' Ls st) Q) : own_Goes p e below T (mkF m pc Ls (y :: x :: st)) Q := own_step (fun _ q => XT.acmpYes X.here hx rfl (pc0 := pc) (pc' := pc') rfl hd rfl h1 h2 hc ho hp q) k
theorem own_acmpF (X : Stand p l e R s m args below meth c T locs cells slots) (hx : p.tables.exec = Jvm.exec) {cd : ClassFile.ACond} {x y : Value} {o : Int} (hp : pc + 3 = pc') (hd : decode c.code pc = .ok (.if_acmp cd o, 3)) (h1 : x.isRef = true) (h2 : y.isRef = true) (hc : XT.acmp cd x y = false) (k : own_Goes p e below T (mkF m pc' Ls st) Q) : own_Goes p e below T (mkF m pc Ls (y :: x :: st)) Q := by
  subst hp; exact own_step (fun _ q => XT.acmpNo X.here hx rfl hd rfl h1 h2 hc q) k
theorem own_ldc (X : Stand p l e R s m args below meth c T locs cells slots) (hx : p.tables.exec = Jvm.exec) (hZ : Z.Warmed39 s.vm) {own : String} {index : Nat} {v : Int32} (hown : s.vm.findClass own = some m.cls) (w : (Jvm.Cond.constant own index v).before a0 Z = true) (hp : pc + 2 = pc') (hd : decode c.code pc = .ok (.ldc index, 2)) (k : own_Goes p e below T (mkF m pc' Ls (.int v :: st)) Q) : own_Goes p e below T (mkF m pc Ls st) Q := by
  subst hp; exact own_step (fun _ q => X.ldcI hx hown (mvT hZ w) rfl hd q) k
theorem own_ldc2_w (X : Stand p l e R s m args below meth c T locs cells slots) (hx : p.tables.exec = Jvm.exec) (hZ : Z.Warmed39 s.vm) {own : String} {index : Nat} {v : Int64} (hown : s.vm.findClass own = some m.cls) (w : (Jvm.Cond.constantLong own index v).before a0 Z = true) (hp : pc + 3 = pc') (hd : decode c.code pc = .ok (.ldc2_w index, 3)) (k : own_Goes p e below T (mkF m pc' Ls (.long v :: st)) Q) : own_Goes p e below T (mkF m pc Ls st) Q := by
  subst hp; exact own_step (fun _ q => X.ldc2J hx hown (mvT hZ w) rfl hd q) k
theorem own_retW (X : Stand p l e R s m args below meth c T locs cells slots) (hx : p.tables.exec = Jvm.exec) (hlk : meth.locks = false) {w : Option Value} (hv : meth.sig.returnType = none → w = none) {F : JFrame} (run : ∀ fs, (∀ (f : JFrame) (acts : List Action), f.method = m → f.locked = none → f.entered = [] → (doReturn e (T.setTop f) acts w).1 = T.setFrames fs) → Steps p.tables e below (T.setTop F) (T.setFrames fs)) {K : Option Value → Heap → List Loc → Prop} {rc rs : Nat} (hc : cells ≤ rc) (hs : slots ≤ rs) (hQ : K w T.heap locs) : own_Goes p e below T F (own_Ret s K rc rs) := by
  obtain ⟨fs, hr, hrun, hended, hW, hsame⟩ := X.leave (v := w) hv hlk
  exact ⟨_, _, run fs hr, hrun, hended, w, locs, rfl, hQ, ⟨_, rfl⟩, hW, hsame.mono hc hs⟩
theorem own_iret (X : Stand p l e R s m args below meth c T locs cells slots) (hx : p.tables.exec = Jvm.exec) (hlk : meth.locks = false) {z : Int32} (hret : meth.sig.returnType = some .int) (hd : decode c.code pc = .ok (.ireturn, 1)) {K : Option Value → Heap → List Loc → Prop} {rc rs : Nat} (hc : cells ≤ rc) (hs : slots ≤ rs) (hQ : K (some (.int z)) T.heap locs) : own_Goes p e below T (mkF m pc Ls (.int z :: st)) (own_Ret s K rc rs) :=
  own_retW X hx hlk (fun q => by rw [hret] at q; cases q) (fun fs hr => retOut X hx hret rfl (Or.inl ⟨rfl, Or.inl rfl, z, rfl⟩) hd hr) hc hs hQ
theorem own_zret (X : Stand p l e R s m args below meth c T locs cells slots) (hx : p.tables.exec = Jvm.exec) (hlk : meth.locks = false) {z : Int32} {t : FieldType} (hret : meth.sig.returnType = some t) (ht : t = .boolean ∨ t = .byte ∨ t = .char ∨ t = .short) (hd : decode c.code pc = .ok (.ireturn, 1)) {K : Option Value → Heap → List Loc → Prop} {rc rs : Nat} (hc : cells ≤ rc) (hs : slots ≤ rs) (hQ : K (some (.int (nar t z))) T.heap locs) : own_Goes p e below T (mkF m pc Ls (.int z :: st)) (own_Ret s K rc rs) :=
  own_retW X hx hlk (fun q => by rw [hret] at q; cases q) (fun fs hr => retN X hx hret ht hd hr) hc hs hQ
theorem own_lret (X : Stand p l e R s m args below meth c T locs cells slots) (hx : p.tables.exec = Jvm.exec) (hlk : meth.locks = false) {z : Int64} (hret : meth.sig.returnType = some .long) (hd : decode c.code pc = .ok (.lreturn, 1)) {K : Option Value → Heap → List Loc → Prop} {rc rs : Nat} (hc : cells ≤ rc) (hs : slots ≤ rs) (hQ : K (some (.long z)) T.heap locs) : own_Goes p e below T (mkF m pc Ls (.long z :: st)) (own_Ret s K rc rs) :=
  own_retW X hx hlk (fun q => by rw [hret] at q; cases q) (fun fs hr => retOut X hx hret rfl (Or.inr (Or.inl ⟨rfl, rfl, z, rfl⟩)) hd hr) hc hs hQ
theorem own_aret (X : Stand p l e R s m args below meth c T locs cells slots) (hx : p.tables.exec = Jvm.exec) (hlk : meth.locks = false) {z : Value} {t : FieldType} (hret : meth.sig.returnType = some t) (ht : t.isReference = true) (hz : z.isRef = true) (hd : decode c.code pc = .ok (.areturn, 1)) {K : Option Value → Heap → List Loc → Prop} {rc rs : Nat} (hc : cells ≤ rc) (hs : slots ≤ rs) (hQ : K (some z) T.heap locs) : own_Goes p e below T (mkF m pc Ls (z :: st)) (own_Ret s K rc rs) :=
  own_retW X hx hlk (fun q => by rw [hret] at q; cases q) (fun fs hr => retOut X hx hret (by cases t <;> simp [FieldType.isReference] at ht <;> cases z <;> simp [Value.isRef] at hz <;> rfl) (Or.inr (Or.inr (Or.inr (Or.inr ⟨rfl, ht, hz⟩)))) hd hr) hc hs hQ
theorem own_ret (X : Stand p l e R s m args below meth c T locs cells slots) (hx : p.tables.exec = Jvm.exec) (hlk : meth.locks = false) (hret : meth.sig.returnType = none) (hd : decode c.code pc = .ok (.return_, 1)) {K : Option Value → Heap → List Loc → Prop} {rc rs : Nat} (hc : cells ≤ rc) (hs : slots ≤ rs) (hQ : K none T.heap locs) : own_Goes p e below T (mkF m pc Ls []) (own_Ret s K rc rs) :=
  own_retW X hx hlk (fun _ => rfl) (fun fs hr => X.returnOut hx hret hd hr) hc hs hQ
theorem own_dload (X : Stand p l e R s m args below meth c T locs cells slots) (hx : p.tables.exec = Jvm.exec) {k : Nat} {v : UInt64} (hp : pc + 2 = pc') (hd : decode c.code pc = .ok (.dload k, 2)) (hl : Ls[k]? = some (.val (.double v))) (k : own_Goes p e below T (mkF m pc' Ls (.double v :: st)) Q) : own_Goes p e below T (mkF m pc Ls st) Q := by
  subst hp; exact own_step (fun _ q => XS.dload X.here hx rfl hd hl q) k
theorem own_dloadN (X : Stand p l e R s m args below meth c T locs cells slots) (hx : p.tables.exec = Jvm.exec) {k : Fin 4} {v : UInt64} (hp : pc + 1 = pc') (hd : decode c.code pc = .ok (.dload_n k, 1)) (hl : Ls[k.val]? = some (.val (.double v))) (k : own_Goes p e below T (mkF m pc' Ls (.double v :: st)) Q) : own_Goes p e below T (mkF m pc Ls st) Q := by
  subst hp; exact own_step (fun _ q => XS.dloadN X.here hx rfl hd hl q) k
theorem own_dstore (X : Stand p l e R s m args below meth c T locs cells slots) (hx : p.tables.exec = Jvm.exec) {k : Nat} {v : UInt64} (hp : pc + 2 = pc') (hd : decode c.code pc = .ok (.dstore k, 2)) (hl : storeLocals Ls k (.double v) = some Ls') (k : own_Goes p e below T (mkF m pc' Ls' st) Q) : own_Goes p e below T (mkF m pc Ls (.double v :: st)) Q := by
  subst hp; exact own_step (fun _ q => XS.dstore X.here hx rfl hd rfl hl q) k
theorem own_dstoreN (X : Stand p l e R s m args below meth c T locs cells slots) (hx : p.tables.exec = Jvm.exec) {k : Fin 4} {v : UInt64} (hp : pc + 1 = pc') (hd : decode c.code pc = .ok (.dstore_n k, 1)) (hl : storeLocals Ls k.val (.double v) = some Ls') (k : own_Goes p e below T (mkF m pc' Ls' st) Q) : own_Goes p e below T (mkF m pc Ls (.double v :: st)) Q := by
  subst hp; exact own_step (fun _ q => XS.dstoreN X.here hx rfl hd rfl hl q) k
theorem own_dconst0 (X : Stand p l e R s m args below meth c T locs cells slots) (hx : p.tables.exec = Jvm.exec) {v : UInt64} (hp : pc + 1 = pc') (hd : decode c.code pc = .ok (.dconst 0, 1)) (hv : FP.dconst0 = v) (k : own_Goes p e below T (mkF m pc' Ls (.double v :: st)) Q) : own_Goes p e below T (mkF m pc Ls st) Q := by
  subst hp; exact own_step (fun _ q => XS.dconst0 X.here hx rfl hd hv q) k
theorem own_dconst1 (X : Stand p l e R s m args below meth c T locs cells slots) (hx : p.tables.exec = Jvm.exec) {v : UInt64} (hp : pc + 1 = pc') (hd : decode c.code pc = .ok (.dconst 1, 1)) (hv : FP.dconst1 = v) (k : own_Goes p e below T (mkF m pc' Ls (.double v :: st)) Q) : own_Goes p e below T (mkF m pc Ls st) Q := by
  subst hp; exact own_step (fun _ q => XS.dconst1 X.here hx rfl hd hv q) k
theorem own_i2d (X : Stand p l e R s m args below meth c T locs cells slots) (hx : p.tables.exec = Jvm.exec) {x : Int32} {v : UInt64} (hp : pc + 1 = pc') (hd : decode c.code pc = .ok (.i2d, 1)) (hv : FP.i2d x = v) (k : own_Goes p e below T (mkF m pc' Ls (.double v :: st)) Q) : own_Goes p e below T (mkF m pc Ls (.int x :: st)) Q := by
  subst hp; exact own_step (fun _ q => XS.i2dS X.here hx rfl hd rfl hv q) k
theorem own_l2d (X : Stand p l e R s m args below meth c T locs cells slots) (hx : p.tables.exec = Jvm.exec) {x : Int64} {v : UInt64} (hp : pc + 1 = pc') (hd : decode c.code pc = .ok (.l2d, 1)) (hv : FP.l2d x = v) (k : own_Goes p e below T (mkF m pc' Ls (.double v :: st)) Q) : own_Goes p e below T (mkF m pc Ls (.long x :: st)) Q := by
  subst hp; exact own_step (fun _ q => XS.l2dS X.here hx rfl hd rfl hv q) k
theorem own_dneg (X : Stand p l e R s m args below meth c T locs cells slots) (hx : p.tables.exec = Jvm.exec) {x v : UInt64} (hp : pc + 1 = pc') (hd : decode c.code pc = .ok (.dneg, 1)) (hv : FP.dneg x = v) (k : own_Goes p e below T (mkF m pc' Ls (.double v :: st)) Q) : own_Goes p e below T (mkF m pc Ls (.double x :: st)) Q := by
  subst hp; exact own_step (fun _ q => XS.dnegS X.here hx rfl hd rfl hv q) k
theorem own_dcmp (X : Stand p l e R s m args below meth c T locs cells slots) (hx : p.tables.exec = Jvm.exec) {o : CmpOp} {x y : UInt64} {v : Int32} (hp : pc + 1 = pc') (hd : decode c.code pc = .ok (.dcmp o, 1)) (hv : cmpValue (FP.dcmp x y) o = v) (k : own_Goes p e below T (mkF m pc' Ls (.int v :: st)) Q) : own_Goes p e below T (mkF m pc Ls (.double y :: .double x :: st)) Q := by
  subst hp; exact own_step (fun _ q => XS.dcmpS X.here hx rfl hd rfl hv q) k
theorem own_dadd (X : Stand p l e R s m args below meth c T locs cells slots) (hx : p.tables.exec = Jvm.exec) {x y v : UInt64} (hp : pc + 1 = pc') (hd : decode c.code pc = .ok (.dadd, 1)) (hn : Jvm.Free.Fl.NoNaN64 (FP.dadd x y)) (hv : FP.dadd x y = v) (k : own_Goes p e below T (mkF m pc' Ls (.double v :: st)) Q) : own_Goes p e below T (mkF m pc Ls (.double y :: .double x :: st)) Q := by
  subst hp; exact own_step (fun _ q => XS.daddS X.here hx rfl hd rfl hn hv q) k
theorem own_dsub (X : Stand p l e R s m args below meth c T locs cells slots) (hx : p.tables.exec = Jvm.exec) {x y v : UInt64} (hp : pc + 1 = pc') (hd : decode c.code pc = .ok (.dsub, 1)) (hn : Jvm.Free.Fl.NoNaN64 (FP.dsub x y)) (hv : FP.dsub x y = v) (k : own_Goes p e below T (mkF m pc' Ls (.double v :: st)) Q) : own_Goes p e below T (mkF m pc Ls (.double y :: .double x :: st)) Q := by
  subst hp; exact own_step (fun _ q => XS.dsubS X.here hx rfl hd rfl hn hv q) k
theorem own_dmul (X : Stand p l e R s m args below meth c T locs cells slots) (hx : p.tables.exec = Jvm.exec) {x y v : UInt64} (hp : pc + 1 = pc') (hd : decode c.code pc = .ok (.dmul, 1)) (hn : Jvm.Free.Fl.NoNaN64 (FP.dmul x y)) (hv : FP.dmul x y = v) (k : own_Goes p e below T (mkF m pc' Ls (.double v :: st)) Q) : own_Goes p e below T (mkF m pc Ls (.double y :: .double x :: st)) Q := by
  subst hp; exact own_step (fun _ q => XS.dmulS X.here hx rfl hd rfl hn hv q) k
theorem own_ddiv (X : Stand p l e R s m args below meth c T locs cells slots) (hx : p.tables.exec = Jvm.exec) {x y v : UInt64} (hp : pc + 1 = pc') (hd : decode c.code pc = .ok (.ddiv, 1)) (hn : Jvm.Free.Fl.NoNaN64 (FP.ddiv x y)) (hv : FP.ddiv x y = v) (k : own_Goes p e below T (mkF m pc' Ls (.double v :: st)) Q) : own_Goes p e below T (mkF m pc Ls (.double y :: .double x :: st)) Q := by
  subst hp; exact own_step (fun _ q => XS.ddivS X.here hx rfl hd rfl hn hv q) k
theorem own_ldcD (X : Stand p l e R s m args below meth c T locs cells slots) (hx : p.tables.exec = Jvm.exec) (hZ : Z.Warmed39 s.vm) {own : String} {index : Nat} {v : UInt64} (hown : s.vm.findClass own = some m.cls) (w : (Jvm.Cond.constantDouble own index v).before a0 Z = true) (hp : pc + 3 = pc') (hd : decode c.code pc = .ok (.ldc2_w index, 3)) (k : own_Goes p e below T (mkF m pc' Ls (.double v :: st)) Q) : own_Goes p e below T (mkF m pc Ls st) Q := by
  subst hp; exact own_step (fun t q => X.ldc2DoubleC hx hown (mvT hZ w) (g := mkF m pc Ls st) rfl hd t q) k
theorem own_dret (X : Stand p l e R s m args below meth c T locs cells slots) (hx : p.tables.exec = Jvm.exec) (hlk : meth.locks = false) {z : UInt64} (hret : meth.sig.returnType = some .double) (hd : decode c.code pc = .ok (.dreturn, 1)) {K : Option Value → Heap → List Loc → Prop} {rc rs : Nat} (hc : cells ≤ rc) (hs : slots ≤ rs) (hQ : K (some (.double z)) T.heap locs) : own_Goes p e below T (mkF m pc Ls (.double z :: st)) (own_Ret s K rc rs) :=
  own_retW X hx hlk (fun q => by rw [hret] at q; cases q) (fun fs hr => retOut X hx hret rfl (Or.inr (Or.inr (Or.inl ⟨rfl, rfl, z, rfl⟩))) hd hr) hc hs hQ
theorem own_getF (X : Stand p l e R s m args below meth c T locs cells slots) (hx : p.tables.exec = Jvm.exec) (hZ : Z.Warmed39 s.vm) {own R0 O n d host : String} {index : Nat} (hown : s.vm.findClass own = some m.cls) (w : (Jvm.Cond.fieldLink own index R0 n d).before a0 Z = true ∨ (Jvm.Cond.fieldLinkNest own index R0 n d host).before a0 Z = true) (via : Via Z R0 O n d) (eT : T.heap = h) {a : Addr} {v : Value} (F : Fld Z h a O n d v) (hp : pc + 3 = pc') (hd : decode c.code pc = .ok (.getfield index, 3))
    (k : ∀ T', Stand p l e R s m args below meth c T' locs cells slots → T'.heap = h → own_Goes p e below T' (mkF m pc' Ls (v :: st)) Q) : own_Goes p e below T (mkF m pc Ls (.ref a :: st)) Q := by
  subst hp
  obtain ⟨T', X', e', stp⟩ := getF X hx hZ hown w via eT F (g := mkF m pc Ls (.ref a :: st)) rfl rfl hd
  exact own_step stp (k T' X' e')
theorem own_putF (X : Stand p l e R s m args below meth c T locs cells slots) (hx : p.tables.exec = Jvm.exec) (hZ : Z.Warmed39 s.vm) {own R0 O n d host C : String} {index kk : Nat} {ty : FieldType} (hown : s.vm.findClass own = some m.cls) (w : (Jvm.Cond.fieldLink own index R0 n d).before a0 Z = true ∨ (Jvm.Cond.fieldLinkNest own index R0 n d host).before a0 Z = true) (via : Via Z R0 O n d) (eT : T.heap = h) {a : Addr} {v old : Value} (F : Fld Z h a O n d old) (E : Exa Z h a C)
    (L : (Jvm.Cond.lays C O n d).before a0 Z = true ∨ ((Jvm.Cond.laysFinal C O n d).before a0 Z = true ∧ own = O ∧ meth.name = "<init>")) (wi : (Jvm.Cond.instantiable C kk).before a0 Z = true) (hty : parseFieldDescriptor d = some ty) (hn : narrow ty v = v) (hf : fits ty v = true) (hp : pc + 3 = pc') (hd : decode c.code pc = .ok (.putfield index, 3))
    (k : ∀ T' h', Stand p l e R s m args below meth c T' (locs ++ [⟨a, Jvm.RoadKit.slotOf Z O n d⟩]) cells slots → T'.heap = h' → Wr h h' a (Jvm.RoadKit.slotOf Z O n d) v → own_Goes p e below T' (mkF m pc' Ls st) Q) : own_Goes p e below T (mkF m pc Ls (v :: .ref a :: st)) Q := by
  subst hp
  obtain ⟨T', h', X', e', W', stp⟩ := putF X hx hZ hown w via eT F E L wi hty hn hf (g := mkF m pc Ls (v :: .ref a :: st)) rfl rfl hd
  exact own_step stp (k T' h' X' e' W')
theorem own_getS (X : Stand p l e R s m args below meth c T locs cells slots) (hx : p.tables.exec = Jvm.exec) (hZ : Z.Warmed39 s.vm) {own R0 O n d : String} {index : Nat} (hown : s.vm.findClass own = some m.cls) (w : (Jvm.Cond.fieldLink own index R0 n d).before a0 Z = true) (via : Via Z R0 O n d) (eT : T.heap = h) {v : Value} (F : Sta Z h O n d v) (hp : pc + 3 = pc') (hd : decode c.code pc = .ok (.getstatic index, 3))
    (k : ∀ T', Stand p l e R s m args below meth c T' locs cells slots → T'.heap = h → own_Goes p e below T' (mkF m pc' Ls (v :: st)) Q) : own_Goes p e below T (mkF m pc Ls st) Q := by
  subst hp
  obtain ⟨T', X', e', stp⟩ := getS X hx hZ (host := "") hown w via eT F (g := mkF m pc Ls st) rfl hd
  exact own_step stp (k T' X' e')
theorem own_new (X : Stand p l e R s m args below meth c T locs cells slots) (hx : p.tables.exec = Jvm.exec) (hZ : Z.Warmed39 s.vm) {own C : String} {index n : Nat} (hown : s.vm.findClass own = some m.cls) (w : (Jvm.Cond.classLink own index C).before a0 Z = true) (wi : (Jvm.Cond.instantiable C n).before a0 Z = true) (wz : (Jvm.Cond.initialized C).before a0 Z = true) (eT : T.heap = h) (hp : pc + 3 = pc') (hd : decode c.code pc = .ok (.new index, 3)) (hc : cells + 1 ≤ R.cells) (hl : slots + n ≤ R.slots)
    (k : ∀ T' h', Stand p l e R s m args below meth c T' locs (cells + 1) (slots + n) → T'.heap = h' → Ext h h' → Exa Z h' h.size C → (∀ {O nm d : String} {ty : FieldType}, Laid Z a0 C O nm d → parseFieldDescriptor d = some ty → Fld Z h' h.size O nm d (defaultValue ty)) → own_Goes p e below T' (mkF m pc' Ls (.ref h.size :: st)) Q) : own_Goes p e below T (mkF m pc Ls st) Q := by
  subst hp
  obtain ⟨T', h', X', e', E', A', D', -, stp⟩ := newO X hx hZ hown w wi wz eT (g := mkF m pc Ls st) rfl hd hc hl
  exact own_step stp (k T' h' X' e' E' A' D')
theorem own_initO (X : Stand p l e R s m args below meth c T locs cells slots) (hx : p.tables.exec = Jvm.exec) (hZ : Z.Warmed39 s.vm) {own : String} {idx : Nat} (hown : s.vm.findClass own = some m.cls) (w1 : (Jvm.Cond.methodLink own idx Lib.objectInit).before a0 Z = true) (w2 : (Jvm.Cond.instanceMethod Lib.objectInit).before a0 Z = true) (w3 : (Jvm.Cond.code Lib.objectInit ⟨#[0xb1]⟩ 1 none).before a0 Z = true) (eT : T.heap = h) (hsize : Ls.size = c.maxLocals) {a : Addr} (hp : pc + 3 = pc') (hd : decode c.code pc = .ok (.invokespecial idx, 3)) (hf : 1 ≤ R.frames) {W : Nat} (hW : (st.map fun v => v.category).sum ≤ W) (hl : W + 12 ≤ R.locals)
    (k : ∀ T', Stand p l e R s m args below meth c T' locs cells slots → T'.heap = h → own_Goes p e below T' (mkF m pc' Ls st) Q) : own_Goes p e below T (mkF m pc Ls (.ref a :: st)) Q := by
  subst hp
  obtain ⟨T', X', e', stp⟩ := initO X hx hZ hown w1 w2 w3 eT (g := mkF m pc Ls (.ref a :: st)) rfl hsize rfl hd hf (W := W) (by show 2 * 0 + _ ≤ _; omega) hl
  exact own_step stp (k T' X' e')
theorem own_callS (X : Stand p l e R s m args below meth c T locs cells slots) (hx : p.tables.exec = Jvm.exec) (hZ : Z.Warmed39 s.vm) {own : String} {index : Nat} {y : MethodName} {bytes : ByteArray} {maxL : Nat} {rt : Option FieldType} (hown : s.vm.findClass own = some m.cls) (w1 : (Jvm.Cond.methodLink own index y).before a0 Z = true) (w2 : (Jvm.Cond.static y).before a0 Z = true) (w3 : (Jvm.Cond.initialized y.cls).before a0 Z = true) (w4 : (Jvm.Cond.code y bytes maxL rt).before a0 Z = true) (hy : y.cls ≠ "java/lang/invoke/MethodHandle" ∧ y.cls ≠ "java/lang/invoke/VarHandle") {rm : Room} {as' : Array Value} {K : Option Value → Heap → List Loc → Prop} {W : Nat} (hM : MetFree l y (head1 [Jvm.Cond.code y bytes maxL rt] rm) (fun a U => a = as' ∧ Z.Warmed39 U.vm ∧ U.heap = h) (fun _ _ _ _ _ => True) (fun _ U o U' => ∃ v L, o = .returned v ∧ K v U'.heap L ∧ FrameEnd U o U' L rm.cells rm.slots)) (hf : rm.frames + 1 ≤ R.frames) (hl : W + (maxL + 11) + rm.locals ≤ R.locals) (hc : cells + rm.cells ≤ R.cells) (hs : slots + rm.slots ≤ R.slots) (eT : T.heap = h) (hsize : Ls.size = c.maxLocals) {argsL rest : List Value} (has : argsL.toArray = as') (hlen : ∀ sig, parseMethodDescriptor y.desc = some sig → argsL.length = sig.parameters.length) (hst : st = argsL.reverse ++ rest) (hW : (rest.map fun v => v.category).sum ≤ W) (hp : pc + 3 = pc') (hd : decode c.code pc = .ok (.invokestatic index, 3))
    (k : ∀ v T' L, Stand p l e R s m args below meth c T' (locs ++ L) (cells + rm.cells) (slots + rm.slots) → K v T'.heap L → own_Goes p e below T' (mkF m pc' Ls (v.toList ++ rest)) Q) : own_Goes p e below T (mkF m pc Ls st) Q := by
  subst hp
  obtain ⟨v, _, ⟨T', L', k', n'⟩, -, X', ⟨Lc, hQ, l1, y1, z1⟩, stp⟩ := Jvm.LawKit.callS X hx (y := y) hown (mvT hZ w1) (mvT hZ w2) (mvT hZ w3) (mvT hZ w4) hy (backOf (W := W) hM hZ w4 w3 hf hl) (g := mkF m pc Ls st) rfl hsize (argsL := argsL) (rest := rest) hlen hst (by show 2 * 0 + _ ≤ _; omega) hd (fun _ _ => ⟨has, eT, hc, hs⟩)
  dsimp only [Pt.U, Pt.locs, Pt.cells, Pt.slots] at X' l1 y1 z1 stp hQ
  subst l1 y1 z1
  exact own_step stp (k v T' Lc X' hQ)
theorem own_callC (X : Stand p l e R s m args below meth c T locs cells slots) (hx : p.tables.exec = Jvm.exec) (hZ : Z.Warmed39 s.vm) {own : String} {index : Nat} {y : MethodName} {bytes : ByteArray} {maxL : Nat} {a : Addr} (hy1 : y.name = "<init>") (hown : s.vm.findClass own = some m.cls) (w1 : (Jvm.Cond.methodLink own index y).before a0 Z = true) (w2 : (Jvm.Cond.instanceMethod y).before a0 Z = true) (w3 : (Jvm.Cond.initialized y.cls).before a0 Z = true) (w4 : (Jvm.Cond.code y bytes maxL none).before a0 Z = true) (hy : y.cls ≠ "java/lang/invoke/MethodHandle" ∧ y.cls ≠ "java/lang/invoke/VarHandle") {rm : Room} {as' : Array Value} {K : Option Value → Heap → List Loc → Prop} {W : Nat} (hM : MetFree l y (head1 [Jvm.Cond.code y bytes maxL none] rm) (fun a U => a = as' ∧ Z.Warmed39 U.vm ∧ U.heap = h) (fun _ _ _ _ _ => True) (fun _ U o U' => ∃ v L, o = .returned v ∧ K v U'.heap L ∧ FrameEnd U o U' L rm.cells rm.slots)) (hf : rm.frames + 1 ≤ R.frames) (hl : W + (maxL + 11) + rm.locals ≤ R.locals) (hc : cells + rm.cells ≤ R.cells) (hs : slots + rm.slots ≤ R.slots) (eT : T.heap = h) (hsize : Ls.size = c.maxLocals) {argsL rest : List Value} (has : (Value.ref a :: argsL).toArray = as') (hlen : ∀ sig, parseMethodDescriptor y.desc = some sig → argsL.length = sig.parameters.length) (hst : st = argsL.reverse ++ .ref a :: rest) (hW : (rest.map fun v => v.category).sum ≤ W) (hp : pc + 3 = pc') (hd : decode c.code pc = .ok (.invokespecial index, 3))
    (k : ∀ v T' L, Stand p l e R s m args below meth c T' (locs ++ L) (cells + rm.cells) (slots + rm.slots) → K v T'.heap L → own_Goes p e below T' (mkF m pc' Ls (v.toList ++ rest)) Q) : own_Goes p e below T (mkF m pc Ls st) Q := by
  subst hp
  obtain ⟨v, _, ⟨T', L', k', n'⟩, -, X', ⟨Lc, hQ, l1, y1, z1⟩, stp⟩ := X.specialBack hx (y := y) hy1 hown (mvT hZ w1) (mvT hZ w2) (mvT hZ w4) hy (backOf (W := W) hM hZ w4 w3 hf hl) (g := mkF m pc Ls st) rfl hsize (Steps.refl _) (a := a) (argsL := argsL) (rest := rest) hlen hst (by show 2 * 0 + _ ≤ _; omega) hd (fun _ _ => ⟨has, eT, hc, hs⟩)
  dsimp only [Pt.U, Pt.locs, Pt.cells, Pt.slots] at X' l1 y1 z1 stp hQ
  subst l1 y1 z1
  exact own_step (fun _ q => stp.trans q) (k v T' Lc X' hQ)
theorem own_callV (X : Stand p l e R s m args below meth c T locs cells slots) (hx : p.tables.exec = Jvm.exec) (hZ : Z.Warmed39 s.vm) {own C : String} {index : Nat} {y : MethodName} {bytes : ByteArray} {maxL : Nat} {rt : Option FieldType} {a : Addr} (hown : s.vm.findClass own = some m.cls) (w1 : (Jvm.Cond.methodLink own index y).before a0 Z = true) (w2 : (Jvm.Cond.declares y).before a0 Z = true) (w5 : (Jvm.Cond.selects C y y).before a0 Z = true) (w6 : (Jvm.Cond.instanceMethod y).before a0 Z = true) (w3 : (Jvm.Cond.initialized y.cls).before a0 Z = true) (w4 : (Jvm.Cond.code y bytes maxL rt).before a0 Z = true) (E : Exa Z h a C) (hy : y.cls ≠ "java/lang/invoke/MethodHandle" ∧ y.cls ≠ "java/lang/invoke/VarHandle") {rm : Room} {as' : Array Value} {K : Option Value → Heap → List Loc → Prop} {W : Nat} (hM : MetFree l y (head1 [Jvm.Cond.code y bytes maxL rt] rm) (fun a U => a = as' ∧ Z.Warmed39 U.vm ∧ U.heap = h) (fun _ _ _ _ _ => True) (fun _ U o U' => ∃ v L, o = .returned v ∧ K v U'.heap L ∧ FrameEnd U o U' L rm.cells rm.slots)) (hf : rm.frames + 1 ≤ R.frames) (hl : W + (maxL + 11) + rm.locals ≤ R.locals) (hc : cells + rm.cells ≤ R.cells) (hs : slots + rm.slots ≤ R.slots) (eT : T.heap = h) (hsize : Ls.size = c.maxLocals) {argsL rest : List Value} (has : (Value.ref a :: argsL).toArray = as') (hlen : ∀ sig, parseMethodDescriptor y.desc = some sig → argsL.length = sig.parameters.length) (hst : st = argsL.reverse ++ .ref a :: rest) (hW : (rest.map fun v => v.category).sum ≤ W) (hp : pc + 3 = pc') (hd : decode c.code pc = .ok (.invokevirtual index, 3))
    (k : ∀ v T' L, Stand p l e R s m args below meth c T' (locs ++ L) (cells + rm.cells) (slots + rm.slots) → K v T'.heap L → own_Goes p e below T' (mkF m pc' Ls (v.toList ++ rest)) Q) : own_Goes p e below T (mkF m pc Ls st) Q := by
  subst hp
  obtain ⟨cq, kq, qa, qb, qc⟩ := isOf hZ eT E
  obtain ⟨v, _, ⟨T', L', k', n'⟩, -, X', ⟨Lc, hQ, l1, y1, z1⟩, stp⟩ := X.virtualBack hx (y := y) (z := y) hown (mvT hZ w1) (mvT hZ w2) (notFace_of_selects (args := #[]) (mvT hZ w5)) (mvT hZ w5) (mvT hZ w6) hy (backOf (W := W) hM hZ w4 w3 hf hl) qa qc (g := mkF m pc Ls st) rfl hsize (Steps.refl _) (argsL := argsL) (rest := rest) hlen hst (by show 2 * 0 + _ ≤ _; omega) hd (fun _ _ => ⟨has, eT, hc, hs⟩)
  dsimp only [Pt.U, Pt.locs, Pt.cells, Pt.slots] at X' l1 y1 z1 stp hQ
  subst l1 y1 z1
  exact own_step (fun _ q => stp.trans q) (k v T' Lc X' hQ)
theorem own_callP (X : Stand p l e R s m args below meth c T locs cells slots) (hx : p.tables.exec = Jvm.exec) (hZ : Z.Warmed39 s.vm) {own C : String} {index : Nat} {y z z' : MethodName} {bytes : ByteArray} {maxL : Nat} {rt : Option FieldType} {a : Addr} {D : String} (hown : s.vm.findClass own = some m.cls) (w1 : (Jvm.Cond.methodLink own index y).before a0 Z = true) (w6 : (Jvm.Cond.instanceMethod y).before a0 Z = true) (w7 : (Jvm.Cond.privateMethod y).before a0 Z = true) (w5 : (Jvm.Cond.selects C z z').before a0 Z = true) (hcls : z'.cls = y.cls) (w3 : (Jvm.Cond.initialized y.cls).before a0 Z = true) (w4 : (Jvm.Cond.code y bytes maxL rt).before a0 Z = true) (E : Exa Z h a D) (hy : y.cls ≠ "java/lang/invoke/MethodHandle" ∧ y.cls ≠ "java/lang/invoke/VarHandle") {rm : Room} {as' : Array Value} {K : Option Value → Heap → List Loc → Prop} {W : Nat} (hM : MetFree l y (head1 [Jvm.Cond.code y bytes maxL rt] rm) (fun a U => a = as' ∧ Z.Warmed39 U.vm ∧ U.heap = h) (fun _ _ _ _ _ => True) (fun _ U o U' => ∃ v L, o = .returned v ∧ K v U'.heap L ∧ FrameEnd U o U' L rm.cells rm.slots)) (hf : rm.frames + 1 ≤ R.frames) (hl : W + (maxL + 11) + rm.locals ≤ R.locals) (hc : cells + rm.cells ≤ R.cells) (hs : slots + rm.slots ≤ R.slots) (eT : T.heap = h) (hsize : Ls.size = c.maxLocals) {argsL rest : List Value} (has : (Value.ref a :: argsL).toArray = as') (hlen : ∀ sig, parseMethodDescriptor y.desc = some sig → argsL.length = sig.parameters.length) (hst : st = argsL.reverse ++ .ref a :: rest) (hW : (rest.map fun v => v.category).sum ≤ W) (hp : pc + 3 = pc') (hd : decode c.code pc = .ok (.invokevirtual index, 3))
    (k : ∀ v T' L, Stand p l e R s m args below meth c T' (locs ++ L) (cells + rm.cells) (slots + rm.slots) → K v T'.heap L → own_Goes p e below T' (mkF m pc' Ls (v.toList ++ rest)) Q) : own_Goes p e below T (mkF m pc Ls st) Q := by
  subst hp
  have hs5 : (Jvm.Cond.selects C z z').before args s = true := mvT hZ w5
  obtain ⟨c2, r2, m2, -, -, q3, -, kP, hkP, hkPi⟩ := Cond.selects_spec hs5
  have hc2 : s.vm.findClass y.cls = some m2.cls := hcls ▸ findClass_of_methodNamed q3
  have hpriv := Cond.privateMethod_at (mvP hZ w7 (args := #[]))
  have hinst : (Jvm.Cond.instanceMethod y).before args s = true := mvT hZ w6
  have hsel := selects_self_of_private (args := args) hc2 hkP hkPi hpriv hinst hy
  obtain ⟨cq, qc, qc'⟩ := E.cell
  obtain ⟨v, _, ⟨T', L', k', n'⟩, -, X', ⟨Lc, hQ, l1, y1, z1⟩, stp⟩ := X.privateBack hx (y := y) hown (mvT hZ w1) hinst hsel hpriv (mvT hZ w4) hy (backOf (W := W) hM hZ w4 w3 hf hl) (g := mkF m pc Ls st) rfl hsize (Steps.refl _) (a := a) (cell := cq) (by rw [eT]; exact qc) qc' (argsL := argsL) (rest := rest) hlen hst (by show 2 * 0 + _ ≤ _; omega) hd (fun _ _ => ⟨has, eT, hc, hs⟩)
  dsimp only [Pt.U, Pt.locs, Pt.cells, Pt.slots] at X' l1 y1 z1 stp hQ
  subst l1 y1 z1
  exact own_step (fun _ q => stp.trans q) (k v T' Lc X' hQ)
theorem own_in {j : Int32} {k n : Nat} (hj : ¬ j < 0) (hk : j.toNatClampNeg = k) (hn : k < n) {cl : Cell} (hs : cl.slots.size = n) : ¬ (j < 0 ∨ cl.slots.size ≤ j.toNatClampNeg) := by
  rintro (q | q)
  · exact hj q
  · omega
theorem own_Arr.lt {a : Addr} {ty : FieldType} {n : Nat} {f : Nat → Value} (A : own_Arr Z h a ty n f) : a < h.size := by obtain ⟨c, A, -⟩ := A; exact A.lt
theorem own_Arr.ext {a : Addr} {ty : FieldType} {n : Nat} {f : Nat → Value} (E : Ext h h') (A : own_Arr Z h a ty n f) : own_Arr Z h' a ty n f := by obtain ⟨c, A, r⟩ := A; exact ⟨c, A.ext E, r⟩
theorem own_Arr.other {a b : Addr} {ty : FieldType} {n sl : Nat} {v : Value} {f : Nat → Value} (W : Wr h h' a sl v) (A : own_Arr Z h b ty n f) (q : b ≠ a) : own_Arr Z h' b ty n f := by obtain ⟨c, A, r⟩ := A; exact ⟨c, A.other W q, r⟩
theorem own_Arr.keep {a : Addr} {ty : FieldType} {n : Nat} {ws : List Addr} {f : Nat → Value} (K : Keep h h' ws) (A : own_Arr Z h a ty n f) (q : a ∉ ws) : own_Arr Z h' a ty n f := by obtain ⟨c, A, r⟩ := A; exact ⟨c, ⟨K.2.1 a c A.1 q, A.2⟩, r⟩
theorem own_Arr.congr {a : Addr} {ty : FieldType} {n : Nat} {f g : Nat → Value} (A : own_Arr Z h a ty n f) (q : ∀ j, j < n → f j = g j) : own_Arr Z h a ty n g := by
  obtain ⟨c, A, r1, r2, r3⟩ := A
  exact ⟨c, A, r1, r2, fun j hj => by rw [r3 j hj, q j hj]⟩
theorem own_sizWr {a : Addr} {sl n0 : Nat} {v : Value} (W : Wr h h' a sl v) (q : n0 ≤ h.size) : n0 ≤ h'.size := by rw [W.size]; exact q
theorem own_Arr.set {a : Addr} {ty : FieldType} {n k : Nat} {f : Nat → Value} {v : Value} {cl : Cell} (A : Arr Z h a cl ty) (r1 : cl.slots.size = n) (r2 : n < 2 ^ 31) (r3 : ∀ j, j < n → cl.slots[j]? = some (f j)) (hk : k < n) (W : Wr h h' a k v) : own_Arr Z h' a ty n (own_upd f k v) := by
  refine ⟨cl.setSlot k v, Arr.same W A, by rw [sz_set]; exact r1, r2, fun j hj => ?_⟩
  show (cl.slots.setIfInBounds k v)[j]? = _
  rw [Array.getElem?_setIfInBounds]
  by_cases q : k = j
  · subst q; simp [own_upd, r1, hk]
  · have q' : ¬ j = k := fun z => q z.symm
    simp [own_upd, q, q', r3 j hj]
theorem own_newarr (X : Stand p l e R s m args below meth c T locs cells slots) (hx : p.tables.exec = Jvm.exec) (hZ : Z.Warmed39 s.vm) {aty : ArrayType} (w : (Jvm.Cond.arrayClass (newarray.typeOf aty)).before a0 Z = true) (eT : T.heap = h) {n : Int32} (hp : pc + 2 = pc') (hd : decode c.code pc = .ok (.newarray aty, 2)) (hn : ¬ n < 0) {N : Nat} (hN : n.toNatClampNeg = N) {cap : Nat} (hcap : n.toNatClampNeg ≤ cap) (hb : cap * 8 ≤ 536870912) (hc : cells + 1 ≤ R.cells) (hl : slots + cap ≤ R.slots)
    (k : ∀ T' h', Stand p l e R s m args below meth c T' locs (cells + 1) (slots + cap) → T'.heap = h' → Ext h h' → own_Arr Z h' h.size (newarray.typeOf aty) N (fun _ => defaultValue (newarray.typeOf aty)) → own_Goes p e below T' (mkF m pc' Ls (.ref h.size :: st)) Q) : own_Goes p e below T (mkF m pc Ls (.int n :: st)) Q := by
  subst hp
  obtain ⟨T', h', cA, X', e', E', A', stp⟩ := newP X hx hZ w eT (g := mkF m pc Ls (.int n :: st)) rfl hd rfl hn hcap hb hc hl
  refine own_step stp (k T' h' X' e' E' ⟨_, A', by rw [sz_new, hN], by rw [← hN]; exact (back32 hn).2, fun j hj => ?_⟩)
  simp [newA, hN, hj]
theorem own_stI (X : Stand p l e R s m args below meth c T locs cells slots) (hx : p.tables.exec = Jvm.exec) (hZ : Z.Warmed39 s.vm) (eT : T.heap = h) {a : Addr} {n k : Nat} {f : Nat → Value} (A : own_Arr Z h a .int n f) {j : Int32} {x : Int32} (hj : ¬ j < 0) (hk : j.toNatClampNeg = k) (hn : k < n)  (hp : pc + 1 = pc') (hd : decode c.code pc = .ok (.iastore, 1))
    (q : ∀ T' h', Stand p l e R s m args below meth c T' (locs ++ [⟨a, k⟩]) cells slots → T'.heap = h' → Wr h h' a k (.int x) → own_Arr Z h' a .int n (own_upd f k (.int x)) → own_Goes p e below T' (mkF m pc' Ls st) Q) : own_Goes p e below T (mkF m pc Ls (.int x :: .int j :: .ref a :: st)) Q := by
  subst hp
  obtain ⟨cl, A, r1, r2, r3⟩ := A
  obtain ⟨T', h', X', e', W', stp⟩ := stI X hx hZ eT A (own_in hj hk hn r1) (g := mkF m pc Ls (.int x :: .int j :: .ref a :: st)) rfl rfl hd
  subst hk
  exact own_step stp (q T' h' X' e' W' (own_Arr.set A r1 r2 r3 hn W'))
theorem own_stJ (X : Stand p l e R s m args below meth c T locs cells slots) (hx : p.tables.exec = Jvm.exec) (hZ : Z.Warmed39 s.vm) (eT : T.heap = h) {a : Addr} {n k : Nat} {f : Nat → Value} (A : own_Arr Z h a .long n f) {j : Int32} {x : Int64} (hj : ¬ j < 0) (hk : j.toNatClampNeg = k) (hn : k < n)  (hp : pc + 1 = pc') (hd : decode c.code pc = .ok (.lastore, 1))
    (q : ∀ T' h', Stand p l e R s m args below meth c T' (locs ++ [⟨a, k⟩]) cells slots → T'.heap = h' → Wr h h' a k (.long x) → own_Arr Z h' a .long n (own_upd f k (.long x)) → own_Goes p e below T' (mkF m pc' Ls st) Q) : own_Goes p e below T (mkF m pc Ls (.long x :: .int j :: .ref a :: st)) Q := by
  subst hp
  obtain ⟨cl, A, r1, r2, r3⟩ := A
  obtain ⟨T', h', X', e', W', stp⟩ := stJ X hx hZ eT A (own_in hj hk hn r1) (g := mkF m pc Ls (.long x :: .int j :: .ref a :: st)) rfl rfl hd
  subst hk
  exact own_step stp (q T' h' X' e' W' (own_Arr.set A r1 r2 r3 hn W'))
theorem own_stB (X : Stand p l e R s m args below meth c T locs cells slots) (hx : p.tables.exec = Jvm.exec) (hZ : Z.Warmed39 s.vm) (eT : T.heap = h) {a : Addr} {n k : Nat} {f : Nat → Value} (A : own_Arr Z h a .byte n f) {j : Int32} {x y : Int32} (hj : ¬ j < 0) (hk : j.toNatClampNeg = k) (hn : k < n) (hv : nar .byte x = y) (hp : pc + 1 = pc') (hd : decode c.code pc = .ok (.bastore, 1))
    (q : ∀ T' h', Stand p l e R s m args below meth c T' (locs ++ [⟨a, k⟩]) cells slots → T'.heap = h' → Wr h h' a k (.int y) → own_Arr Z h' a .byte n (own_upd f k (.int y)) → own_Goes p e below T' (mkF m pc' Ls st) Q) : own_Goes p e below T (mkF m pc Ls (.int x :: .int j :: .ref a :: st)) Q := by
  subst hp; subst hv
  obtain ⟨cl, A, r1, r2, r3⟩ := A
  obtain ⟨T', h', X', e', W', stp⟩ := stB X hx hZ eT A (own_in hj hk hn r1) (g := mkF m pc Ls (.int x :: .int j :: .ref a :: st)) rfl rfl hd
  subst hk
  exact own_step stp (q T' h' X' e' W' (own_Arr.set A r1 r2 r3 hn W'))
theorem own_stC (X : Stand p l e R s m args below meth c T locs cells slots) (hx : p.tables.exec = Jvm.exec) (hZ : Z.Warmed39 s.vm) (eT : T.heap = h) {a : Addr} {n k : Nat} {f : Nat → Value} (A : own_Arr Z h a .char n f) {j : Int32} {x y : Int32} (hj : ¬ j < 0) (hk : j.toNatClampNeg = k) (hn : k < n) (hv : nar .char x = y) (hp : pc + 1 = pc') (hd : decode c.code pc = .ok (.castore, 1))
    (q : ∀ T' h', Stand p l e R s m args below meth c T' (locs ++ [⟨a, k⟩]) cells slots → T'.heap = h' → Wr h h' a k (.int y) → own_Arr Z h' a .char n (own_upd f k (.int y)) → own_Goes p e below T' (mkF m pc' Ls st) Q) : own_Goes p e below T (mkF m pc Ls (.int x :: .int j :: .ref a :: st)) Q := by
  subst hp; subst hv
  obtain ⟨cl, A, r1, r2, r3⟩ := A
  obtain ⟨T', h', X', e', W', stp⟩ := stC X hx hZ eT A (own_in hj hk hn r1) (g := mkF m pc Ls (.int x :: .int j :: .ref a :: st)) rfl rfl hd
  subst hk
  exact own_step stp (q T' h' X' e' W' (own_Arr.set A r1 r2 r3 hn W'))
theorem own_ldI (X : Stand p l e R s m args below meth c T locs cells slots) (hx : p.tables.exec = Jvm.exec) (hZ : Z.Warmed39 s.vm) (eT : T.heap = h) {a : Addr} {n k : Nat} {f : Nat → Value} (A : own_Arr Z h a .int n f) {j : Int32} (hj : ¬ j < 0) (hk : j.toNatClampNeg = k) (hn : k < n) {v : Value} (hv : f k = v) (hp : pc + 1 = pc') (hd : decode c.code pc = .ok (.iaload, 1)) (q : own_Goes p e below T (mkF m pc' Ls (v :: st)) Q) : own_Goes p e below T (mkF m pc Ls (.int j :: .ref a :: st)) Q := by
  subst hp
  obtain ⟨cl, A, r1, r2, r3⟩ := A
  exact own_step (fun t z => X.iaload hx (j := j) (v := v) (by rw [eT]; exact A.1) (State.isArrayOf_alike hZ.alike A.2.1) A.2.2 (own_in hj hk hn r1) (by rw [hk, r3 k hn, hv]) (g := mkF m pc Ls (.int j :: .ref a :: st)) rfl rfl hd t z) q
theorem own_ldJ (X : Stand p l e R s m args below meth c T locs cells slots) (hx : p.tables.exec = Jvm.exec) (hZ : Z.Warmed39 s.vm) (eT : T.heap = h) {a : Addr} {n k : Nat} {f : Nat → Value} (A : own_Arr Z h a .long n f) {j : Int32} (hj : ¬ j < 0) (hk : j.toNatClampNeg = k) (hn : k < n) {v : Value} (hv : f k = v) (hp : pc + 1 = pc') (hd : decode c.code pc = .ok (.laload, 1)) (q : own_Goes p e below T (mkF m pc' Ls (v :: st)) Q) : own_Goes p e below T (mkF m pc Ls (.int j :: .ref a :: st)) Q := by
  subst hp
  obtain ⟨cl, A, r1, r2, r3⟩ := A
  exact own_step (fun t z => X.laload hx (j := j) (v := v) (by rw [eT]; exact A.1) (State.isArrayOf_alike hZ.alike A.2.1) A.2.2 (own_in hj hk hn r1) (by rw [hk, r3 k hn, hv]) (g := mkF m pc Ls (.int j :: .ref a :: st)) rfl rfl hd t z) q
theorem own_ldB (X : Stand p l e R s m args below meth c T locs cells slots) (hx : p.tables.exec = Jvm.exec) (hZ : Z.Warmed39 s.vm) (eT : T.heap = h) {a : Addr} {n k : Nat} {f : Nat → Value} (A : own_Arr Z h a .byte n f) {j : Int32} (hj : ¬ j < 0) (hk : j.toNatClampNeg = k) (hn : k < n) {v : Value} (hv : f k = v) (hp : pc + 1 = pc') (hd : decode c.code pc = .ok (.baload, 1)) (q : own_Goes p e below T (mkF m pc' Ls (v :: st)) Q) : own_Goes p e below T (mkF m pc Ls (.int j :: .ref a :: st)) Q := by
  subst hp
  obtain ⟨cl, A, r1, r2, r3⟩ := A
  exact own_step (fun t z => X.baloadBytes hx (j := j) (v := v) (by rw [eT]; exact A.1) (State.isArrayOf_alike hZ.alike A.2.1) A.2.2 (own_in hj hk hn r1) (by rw [hk, r3 k hn, hv]) (g := mkF m pc Ls (.int j :: .ref a :: st)) rfl rfl hd t z) q
theorem own_ldC (X : Stand p l e R s m args below meth c T locs cells slots) (hx : p.tables.exec = Jvm.exec) (hZ : Z.Warmed39 s.vm) (eT : T.heap = h) {a : Addr} {n k : Nat} {f : Nat → Value} (A : own_Arr Z h a .char n f) {j : Int32} (hj : ¬ j < 0) (hk : j.toNatClampNeg = k) (hn : k < n) {v : Value} (hv : f k = v) (hp : pc + 1 = pc') (hd : decode c.code pc = .ok (.caload, 1)) (q : own_Goes p e below T (mkF m pc' Ls (v :: st)) Q) : own_Goes p e below T (mkF m pc Ls (.int j :: .ref a :: st)) Q := by
  subst hp
  obtain ⟨cl, A, r1, r2, r3⟩ := A
  exact own_step (fun t z => X.caload hx (j := j) (v := v) (by rw [eT]; exact A.1) (State.isArrayOf_alike hZ.alike A.2.1) A.2.2 (own_in hj hk hn r1) (by rw [hk, r3 k hn, hv]) (g := mkF m pc Ls (.int j :: .ref a :: st)) rfl rfl hd t z) q
theorem own_len (X : Stand p l e R s m args below meth c T locs cells slots) (hx : p.tables.exec = Jvm.exec) (hZ : Z.Warmed39 s.vm) (eT : T.heap = h) {a : Addr} {ty : FieldType} {n : Nat} {f : Nat → Value} (A : own_Arr Z h a ty n f) {v : Int32} (hv : n.toInt32 = v) (hp : pc + 1 = pc') (hd : decode c.code pc = .ok (.arraylength, 1)) (q : own_Goes p e below T (mkF m pc' Ls (.int v :: st)) Q) : own_Goes p e below T (mkF m pc Ls (.ref a :: st)) Q := by
  subst hp; subst hv
  obtain ⟨cl, A, r1, r2, r3⟩ := A
  subst r1
  exact own_step (fun t z => X.arraylength hx (cell := cl) (by rw [eT]; exact A.1) (State.isArrayOf_alike hZ.alike A.2.1) (g := mkF m pc Ls (.ref a :: st)) rfl rfl hd t z) q
theorem own_instY (X : Stand p l e R s m args below meth c T locs cells slots) (hx : p.tables.exec = Jvm.exec) (hZ : Z.Warmed39 s.vm) {own K : String} {index : Nat} (hown : s.vm.findClass own = some m.cls) (w : (Jvm.Cond.classLink own index K).before a0 Z = true) (eT : T.heap = h) {a : Addr} (F : Ins Z h a K true) (hp : pc + 3 = pc') (hd : decode c.code pc = .ok (.instanceof index, 3))
    (k : ∀ T', Stand p l e R s m args below meth c T' locs cells slots → T'.heap = h → own_Goes p e below T' (mkF m pc' Ls (.int 1 :: st)) Q) : own_Goes p e below T (mkF m pc Ls (.ref a :: st)) Q := by
  subst hp
  obtain ⟨T', X', e', stp⟩ := instY X hx hZ hown w eT F (g := mkF m pc Ls (.ref a :: st)) rfl rfl hd
  exact own_step stp (k T' X' e')
theorem own_castY (X : Stand p l e R s m args below meth c T locs cells slots) (hx : p.tables.exec = Jvm.exec) (hZ : Z.Warmed39 s.vm) {own K : String} {index : Nat} (hown : s.vm.findClass own = some m.cls) (w : (Jvm.Cond.classLink own index K).before a0 Z = true) (eT : T.heap = h) {a : Addr} (F : Ins Z h a K true) (hp : pc + 3 = pc') (hd : decode c.code pc = .ok (.checkcast index, 3))
    (k : ∀ T', Stand p l e R s m args below meth c T' locs cells slots → T'.heap = h → own_Goes p e below T' (mkF m pc' Ls (.ref a :: st)) Q) : own_Goes p e below T (mkF m pc Ls (.ref a :: st)) Q := by
  subst hp
  obtain ⟨T', X', e', stp⟩ := castY X hx hZ hown w eT F (g := mkF m pc Ls (.ref a :: st)) rfl rfl hd
  exact own_step stp (k T' X' e')
theorem own_instNo (X : Stand p l e R s m args below meth c T locs cells slots) (hx : p.tables.exec = Jvm.exec) (hZ : Z.Warmed39 s.vm) {own K C : String} {index : Nat} (hown : s.vm.findClass own = some m.cls) (w : (Jvm.Cond.classLink own index K).before a0 Z = true) (eT : T.heap = h) {a : Addr} (E : Exa Z h a C) (F : ∃ c t, Z.vm.findClass C = some c ∧ Z.vm.findClass K = some t ∧ Z.vm.assignable c t = false) (hp : pc + 3 = pc') (hd : decode c.code pc = .ok (.instanceof index, 3))
    (k : ∀ T', Stand p l e R s m args below meth c T' locs cells slots → T'.heap = h → own_Goes p e below T' (mkF m pc' Ls (.int 0 :: st)) Q) : own_Goes p e below T (mkF m pc Ls (.ref a :: st)) Q := by
  subst hp
  obtain ⟨T', X', e', stp⟩ := instNo X hx hZ hown w eT E F (g := mkF m pc Ls (.ref a :: st)) rfl rfl hd
  exact own_step stp (k T' X' e')
theorem own_instNull (X : Stand p l e R s m args below meth c T locs cells slots) (hx : p.tables.exec = Jvm.exec) {index : Nat} (hp : pc + 3 = pc') (hd : decode c.code pc = .ok (.instanceof index, 3)) (k : own_Goes p e below T (mkF m pc' Ls (.int 0 :: st)) Q) : own_Goes p e below T (mkF m pc Ls (.null :: st)) Q := by
  subst hp; exact own_step (fun t q => X.instanceofNull hx (g := mkF m pc Ls (.null :: st)) rfl rfl hd t q) k
theorem own_fitR {v : Value} {C : String} (hv : v.isRef = true) : fits (.object C) v = true := by cases v <;> simp_all [fits, Value.isRef]
end Own
/-! 2. THE BODIES -/
theorem ef_rm_item5 (m : MethodId) (a1 : Addr) (a2 : Addr) (p3 : Int32) (q4 : Int64) (q5 : Int64) (p6 : Int32) : entryFrame m #[(.ref a1), (.ref a2), (.int p3), (.long q4), (.long q5), (.int p6)] 8 = mkF m 0 #[.val (.ref a1), .val (.ref a2), .val (.int p3), .val (.long q4), .second, .val (.long q5), .second, .val (.int p6)] [] := by first | (simp [entryFrame, mkF, argsToLocals, Value.category]; done) | rfl
def K_rm_item5  (Z : State) (h0 : Heap) (n0 : Nat) (a1 : Addr) (a2 : Addr) (p3 : Int32) (q4 : Int64) (q5 : Int64) (p6 : Int32) (v : Option Value) (h : Heap) (L : List Loc) : Prop := v = none ∧ Fr n0 L ∧ Keep h0 h [a1] ∧ Exa Z h a1 "com/example/mayfly/mayfly/store/Item" ∧ Fld Z h a1 "com/example/mayfly/mayfly/store/Item" "value" "[B" (.ref a2) ∧ Fld Z h a1 "com/example/mayfly/mayfly/store/Item" "flags" "I" (.int p3) ∧ Fld Z h a1 "com/example/mayfly/mayfly/store/Item" "deadline" "J" (.long q4) ∧ Fld Z h a1 "com/example/mayfly/mayfly/store/Item" "cas" "J" (.long q5) ∧ Fld Z h a1 "com/example/mayfly/mayfly/store/Item" "read" "Z" (.int p6)
theorem d_prog_15_method_2_code_0 : decode prog_15_method_2_code 0 = .ok (.aload_n 0, 1) := by decide +kernel
theorem d_prog_15_method_2_code_1 : decode prog_15_method_2_code 1 = .ok (.invokespecial 7, 3) := by decide +kernel
theorem d_prog_15_method_2_code_4 : decode prog_15_method_2_code 4 = .ok (.aload_n 0, 1) := by decide +kernel
theorem d_prog_15_method_2_code_5 : decode prog_15_method_2_code 5 = .ok (.aload_n 1, 1) := by decide +kernel
theorem d_prog_15_method_2_code_6 : decode prog_15_method_2_code 6 = .ok (.putfield 12, 3) := by decide +kernel
theorem d_prog_15_method_2_code_9 : decode prog_15_method_2_code 9 = .ok (.aload_n 0, 1) := by decide +kernel
theorem d_prog_15_method_2_code_10 : decode prog_15_method_2_code 10 = .ok (.iload_n 2, 1) := by decide +kernel
theorem d_prog_15_method_2_code_11 : decode prog_15_method_2_code 11 = .ok (.putfield 16, 3) := by decide +kernel
theorem d_prog_15_method_2_code_14 : decode prog_15_method_2_code 14 = .ok (.aload_n 0, 1) := by decide +kernel
theorem d_prog_15_method_2_code_15 : decode prog_15_method_2_code 15 = .ok (.lload_n 3, 1) := by decide +kernel
theorem d_prog_15_method_2_code_16 : decode prog_15_method_2_code 16 = .ok (.putfield 20, 3) := by decide +kernel
theorem d_prog_15_method_2_code_19 : decode prog_15_method_2_code 19 = .ok (.aload_n 0, 1) := by decide +kernel
theorem d_prog_15_method_2_code_20 : decode prog_15_method_2_code 20 = .ok (.lload 5, 2) := by decide +kernel
theorem d_prog_15_method_2_code_22 : decode prog_15_method_2_code 22 = .ok (.putfield 24, 3) := by decide +kernel
theorem d_prog_15_method_2_code_25 : decode prog_15_method_2_code 25 = .ok (.aload_n 0, 1) := by decide +kernel
theorem d_prog_15_method_2_code_26 : decode prog_15_method_2_code 26 = .ok (.iload 7, 2) := by decide +kernel
theorem d_prog_15_method_2_code_28 : decode prog_15_method_2_code 28 = .ok (.putfield 27, 3) := by decide +kernel
theorem d_prog_15_method_2_code_31 : decode prog_15_method_2_code 31 = .ok (.return_, 1) := by decide +kernel
theorem pn_com_example_mayfly_mayfly_store_Item : plainName "com/example/mayfly/mayfly/store/Item" = true := by first | (simp [plainName, overriddenIn]; done) | decide +kernel
set_option maxRecDepth 65536 in
set_option maxHeartbeats 40000000 in
theorem rm_item5 (l : Launch) (Z : State) (a0 : Array Value) (hw : ∀ d ∈ tables_1, d.before a0 Z = true) (ws : List Jvm.Cond)  (a1 : Addr) (a2 : Addr) (p3 : Int32) (q4 : Int64) (q5 : Int64) (p6 : Int32) (h0 : Heap) (n0 : Nat) (Z0 : n0 ≤ h0.size) (I0 : Exa Z h0 a1 "com/example/mayfly/mayfly/store/Item") (I1 : Fld Z h0 a1 "com/example/mayfly/mayfly/store/Item" "value" "[B" .null) (I2 : Fld Z h0 a1 "com/example/mayfly/mayfly/store/Item" "flags" "I" (.int (0 : Int32))) (I3 : Fld Z h0 a1 "com/example/mayfly/mayfly/store/Item" "deadline" "J" (.long (0 : Int64))) (I4 : Fld Z h0 a1 "com/example/mayfly/mayfly/store/Item" "cas" "J" (.long (0 : Int64))) (I5 : Fld Z h0 a1 "com/example/mayfly/mayfly/store/Item" "read" "Z" (.int (0 : Int32))) (ge_a1 : n0 ≤ a1) (hz : p6 = (0 : Int32)) :
    MetFree l (⟨"com/example/mayfly/mayfly/store/Item", "<init>", "([BIJJZ)V"⟩ : MethodName) (head1 (Jvm.Cond.code (⟨"com/example/mayfly/mayfly/store/Item", "<init>", "([BIJJZ)V"⟩ : MethodName) prog_15_method_2_code 8 none :: ws) ({ frames := 1, cells := 0, slots := 0, locals := 12 } : Room)) (fun a U => a = #[(.ref a1), (.ref a2), (.int p3), (.long q4), (.long q5), (.int p6)] ∧ Z.Warmed39 U.vm ∧ U.heap = h0) (fun _ _ _ _ _ => True) (fun _ U o U' => ∃ v L, o = .returned v ∧ (K_rm_item5  Z h0 n0 a1 a2 p3 q4 q5 p6) v U'.heap L ∧ FrameEnd U o U' L ({ frames := 1, cells := 0, slots := 0, locals := 12 } : Room).cells ({ frames := 1, cells := 0, slots := 0, locals := 12 } : Room).slots) := by
  refine own_body (plainFor_of_name pn_com_example_mayfly_mayfly_store_Item) ?_
  intro p e s m below meth c s₁ hx hby hml hown hnm hret hlk hZ X0 e0
  have hown : s.vm.findClass "com/example/mayfly/mayfly/store/Item" = some m.cls := hown
  have N0 := Fr.nil n0
  rw [ef_rm_item5 m a1 a2 p3 q4 q5 p6]
  have K0 := Keep.refl h0 [a1]
  refine own_aloadN X0 hx (pc' := 1) rfl (hb hby d_prog_15_method_2_code_0) rfl rfl ?_
  refine own_initO X0 hx hZ hown (hw _ (List.mem_of_getElem? (i := 10) rfl)) (hw _ (List.mem_of_getElem? (i := 11) rfl)) (hw _ (List.mem_of_getElem? (i := 12) rfl)) e0 (by rw [hml]; rfl) (pc' := 4) rfl (hb hby d_prog_15_method_2_code_1) (by decide) (W := 0) (Nat.le_of_eq rfl) (by decide) ?_
  intro T1 X1 e1
  refine own_aloadN X1 hx (pc' := 5) rfl (hb hby d_prog_15_method_2_code_4) rfl rfl ?_
  refine own_aloadN X1 hx (pc' := 6) rfl (hb hby d_prog_15_method_2_code_5) rfl rfl ?_
  refine own_putF X1 hx hZ hown (host := "") (Or.inl (hw _ (List.mem_of_getElem? (i := 13) rfl))) Via.refl e1 I1 I0 (Or.inr ⟨(hw _ (List.mem_of_getElem? (i := 14) rfl)), rfl, hnm⟩) (hw _ (List.mem_of_getElem? (i := 2) rfl)) (ty := (.array .byte)) (by decide) rfl rfl (pc' := 9) rfl (hb hby d_prog_15_method_2_code_6) ?_
  intro T2 h2 X2 e2 W2
  have F3 := Fld.same W2 I1
  have S4 := own_sizWr W2 Z0
  have E5 := Exa.wr W2 I0
  have F7 := Fld.other W2 I2 (Or.inr (slot_ne (Or.inr (hw _ (List.mem_of_getElem? (i := 16) rfl))) (Or.inr (hw _ (List.mem_of_getElem? (i := 14) rfl))) (by decide) (t := .int) (t' := (.array .byte)) (by decide) (by decide)))
  have F8 := Fld.other W2 I3 (Or.inr (slot_ne (Or.inr (hw _ (List.mem_of_getElem? (i := 18) rfl))) (Or.inr (hw _ (List.mem_of_getElem? (i := 14) rfl))) (by decide) (t := .long) (t' := (.array .byte)) (by decide) (by decide)))
  have F9 := Fld.other W2 I4 (Or.inr (slot_ne (Or.inr (hw _ (List.mem_of_getElem? (i := 20) rfl))) (Or.inr (hw _ (List.mem_of_getElem? (i := 14) rfl))) (by decide) (t := .long) (t' := (.array .byte)) (by decide) (by decide)))
  have F10 := Fld.other W2 I5 (Or.inr (slot_ne (Or.inl (hw _ (List.mem_of_getElem? (i := 22) rfl))) (Or.inr (hw _ (List.mem_of_getElem? (i := 14) rfl))) (by decide) (t := .boolean) (t' := (.array .byte)) (by decide) (by decide)))
  have N2 := Fr.snoc X2 N0 ge_a1
  have K2 := Keep.wr K0 W2 (Or.inl (by simp))
  refine own_aloadN X2 hx (pc' := 10) rfl (hb hby d_prog_15_method_2_code_9) rfl rfl ?_
  refine own_iloadN X2 hx (pc' := 11) rfl (hb hby d_prog_15_method_2_code_10) rfl ?_
  refine own_putF X2 hx hZ hown (host := "") (Or.inl (hw _ (List.mem_of_getElem? (i := 15) rfl))) Via.refl e2 F7 E5 (Or.inr ⟨(hw _ (List.mem_of_getElem? (i := 16) rfl)), rfl, hnm⟩) (hw _ (List.mem_of_getElem? (i := 2) rfl)) (ty := .int) (by decide) rfl rfl (pc' := 14) rfl (hb hby d_prog_15_method_2_code_11) ?_
  intro T11 h11 X11 e11 W11
  have F12 := Fld.same W11 F7
  have S13 := own_sizWr W11 S4
  have E14 := Exa.wr W11 E5
  have F16 := Fld.other W11 F8 (Or.inr (slot_ne (Or.inr (hw _ (List.mem_of_getElem? (i := 18) rfl))) (Or.inr (hw _ (List.mem_of_getElem? (i := 16) rfl))) (by decide) (t := .long) (t' := .int) (by decide) (by decide)))
  have F17 := Fld.other W11 F9 (Or.inr (slot_ne (Or.inr (hw _ (List.mem_of_getElem? (i := 20) rfl))) (Or.inr (hw _ (List.mem_of_getElem? (i := 16) rfl))) (by decide) (t := .long) (t' := .int) (by decide) (by decide)))
  have F18 := Fld.other W11 F10 (Or.inr (slot_ne (Or.inl (hw _ (List.mem_of_getElem? (i := 22) rfl))) (Or.inr (hw _ (List.mem_of_getElem? (i := 16) rfl))) (by decide) (t := .boolean) (t' := .int) (by decide) (by decide)))
  have F19 := Fld.other W11 F3 (Or.inr (slot_ne (Or.inr (hw _ (List.mem_of_getElem? (i := 14) rfl))) (Or.inr (hw _ (List.mem_of_getElem? (i := 16) rfl))) (by decide) (t := (.array .byte)) (t' := .int) (by decide) (by decide)))
  have N11 := Fr.snoc X11 N2 ge_a1
  have K11 := Keep.wr K2 W11 (Or.inl (by simp))
  refine own_aloadN X11 hx (pc' := 15) rfl (hb hby d_prog_15_method_2_code_14) rfl rfl ?_
  refine own_lloadN X11 hx (pc' := 16) rfl (hb hby d_prog_15_method_2_code_15) rfl ?_
  refine own_putF X11 hx hZ hown (host := "") (Or.inl (hw _ (List.mem_of_getElem? (i := 17) rfl))) Via.refl e11 F16 E14 (Or.inr ⟨(hw _ (List.mem_of_getElem? (i := 18) rfl)), rfl, hnm⟩) (hw _ (List.mem_of_getElem? (i := 2) rfl)) (ty := .long) (by decide) rfl rfl (pc' := 19) rfl (hb hby d_prog_15_method_2_code_16) ?_
  intro T20 h20 X20 e20 W20
  have F21 := Fld.same W20 F16
  have S22 := own_sizWr W20 S13
  have E23 := Exa.wr W20 E14
  have F25 := Fld.other W20 F17 (Or.inr (slot_ne (Or.inr (hw _ (List.mem_of_getElem? (i := 20) rfl))) (Or.inr (hw _ (List.mem_of_getElem? (i := 18) rfl))) (by decide) (t := .long) (t' := .long) (by decide) (by decide)))
  have F26 := Fld.other W20 F18 (Or.inr (slot_ne (Or.inl (hw _ (List.mem_of_getElem? (i := 22) rfl))) (Or.inr (hw _ (List.mem_of_getElem? (i := 18) rfl))) (by decide) (t := .boolean) (t' := .long) (by decide) (by decide)))
  have F27 := Fld.other W20 F19 (Or.inr (slot_ne (Or.inr (hw _ (List.mem_of_getElem? (i := 14) rfl))) (Or.inr (hw _ (List.mem_of_getElem? (i := 18) rfl))) (by decide) (t := (.array .byte)) (t' := .long) (by decide) (by decide)))
  have F28 := Fld.other W20 F12 (Or.inr (slot_ne (Or.inr (hw _ (List.mem_of_getElem? (i := 16) rfl))) (Or.inr (hw _ (List.mem_of_getElem? (i := 18) rfl))) (by decide) (t := .int) (t' := .long) (by decide) (by decide)))
  have N20 := Fr.snoc X20 N11 ge_a1
  have K20 := Keep.wr K11 W20 (Or.inl (by simp))
  refine own_aloadN X20 hx (pc' := 20) rfl (hb hby d_prog_15_method_2_code_19) rfl rfl ?_
  refine own_lload X20 hx (pc' := 22) rfl (hb hby d_prog_15_method_2_code_20) rfl ?_
  refine own_putF X20 hx hZ hown (host := "") (Or.inl (hw _ (List.mem_of_getElem? (i := 19) rfl))) Via.refl e20 F25 E23 (Or.inr ⟨(hw _ (List.mem_of_getElem? (i := 20) rfl)), rfl, hnm⟩) (hw _ (List.mem_of_getElem? (i := 2) rfl)) (ty := .long) (by decide) rfl rfl (pc' := 25) rfl (hb hby d_prog_15_method_2_code_22) ?_
  intro T29 h29 X29 e29 W29
  have F30 := Fld.same W29 F25
  have S31 := own_sizWr W29 S22
  have E32 := Exa.wr W29 E23
  have F34 := Fld.other W29 F26 (Or.inr (slot_ne (Or.inl (hw _ (List.mem_of_getElem? (i := 22) rfl))) (Or.inr (hw _ (List.mem_of_getElem? (i := 20) rfl))) (by decide) (t := .boolean) (t' := .long) (by decide) (by decide)))
  have F35 := Fld.other W29 F27 (Or.inr (slot_ne (Or.inr (hw _ (List.mem_of_getElem? (i := 14) rfl))) (Or.inr (hw _ (List.mem_of_getElem? (i := 20) rfl))) (by decide) (t := (.array .byte)) (t' := .long) (by decide) (by decide)))
  have F36 := Fld.other W29 F28 (Or.inr (slot_ne (Or.inr (hw _ (List.mem_of_getElem? (i := 16) rfl))) (Or.inr (hw _ (List.mem_of_getElem? (i := 20) rfl))) (by decide) (t := .int) (t' := .long) (by decide) (by decide)))
  have F37 := Fld.other W29 F21 (Or.inr (slot_ne (Or.inr (hw _ (List.mem_of_getElem? (i := 18) rfl))) (Or.inr (hw _ (List.mem_of_getElem? (i := 20) rfl))) (by decide) (t := .long) (t' := .long) (by decide) (by decide)))
  have N29 := Fr.snoc X29 N20 ge_a1
  have K29 := Keep.wr K20 W29 (Or.inl (by simp))
  refine own_aloadN X29 hx (pc' := 26) rfl (hb hby d_prog_15_method_2_code_25) rfl rfl ?_
  refine own_iload X29 hx (pc' := 28) rfl (hb hby d_prog_15_method_2_code_26) rfl ?_
  refine own_putF X29 hx hZ hown (host := "") (Or.inl (hw _ (List.mem_of_getElem? (i := 21) rfl))) Via.refl e29 F34 E32 (Or.inl (hw _ (List.mem_of_getElem? (i := 22) rfl))) (hw _ (List.mem_of_getElem? (i := 2) rfl)) (ty := .boolean) (by decide) (by rw [hz]; rfl) (by rw [hz]; rfl) (pc' := 31) rfl (hb hby d_prog_15_method_2_code_28) ?_
  intro T38 h38 X38 e38 W38
  have F39 := Fld.same W38 F34
  have S40 := own_sizWr W38 S31
  have E41 := Exa.wr W38 E32
  have F43 := Fld.other W38 F35 (Or.inr (slot_ne (Or.inr (hw _ (List.mem_of_getElem? (i := 14) rfl))) (Or.inl (hw _ (List.mem_of_getElem? (i := 22) rfl))) (by decide) (t := (.array .byte)) (t' := .boolean) (by decide) (by decide)))
  have F44 := Fld.other W38 F36 (Or.inr (slot_ne (Or.inr (hw _ (List.mem_of_getElem? (i := 16) rfl))) (Or.inl (hw _ (List.mem_of_getElem? (i := 22) rfl))) (by decide) (t := .int) (t' := .boolean) (by decide) (by decide)))
  have F45 := Fld.other W38 F37 (Or.inr (slot_ne (Or.inr (hw _ (List.mem_of_getElem? (i := 18) rfl))) (Or.inl (hw _ (List.mem_of_getElem? (i := 22) rfl))) (by decide) (t := .long) (t' := .boolean) (by decide) (by decide)))
  have F46 := Fld.other W38 F30 (Or.inr (slot_ne (Or.inr (hw _ (List.mem_of_getElem? (i := 20) rfl))) (Or.inl (hw _ (List.mem_of_getElem? (i := 22) rfl))) (by decide) (t := .long) (t' := .boolean) (by decide) (by decide)))
  have N38 := Fr.snoc X38 N29 ge_a1
  have K38 := Keep.wr K29 W38 (Or.inl (by simp))
  refine own_ret X38 hx hlk hret (hb hby d_prog_15_method_2_code_31) (by decide) (by decide) ?_
  rw [e38]
  exact ⟨rfl, N38, K38, E41, F43, F44, F45, F46, F39⟩
theorem ef_rm_item3 (m : MethodId) (a1 : Addr) (a2 : Addr) (p3 : Int32) (q4 : Int64) : entryFrame m #[(.ref a1), (.ref a2), (.int p3), (.long q4)] 5 = mkF m 0 #[.val (.ref a1), .val (.ref a2), .val (.int p3), .val (.long q4), .second] [] := by first | (simp [entryFrame, mkF, argsToLocals, Value.category]; done) | rfl
def K_rm_item3  (Z : State) (h0 : Heap) (n0 : Nat) (a1 : Addr) (a2 : Addr) (p3 : Int32) (q4 : Int64) (v : Option Value) (h : Heap) (L : List Loc) : Prop := v = none ∧ Fr n0 L ∧ Keep h0 h [a1] ∧ Exa Z h a1 "com/example/mayfly/mayfly/store/Item" ∧ Fld Z h a1 "com/example/mayfly/mayfly/store/Item" "value" "[B" (.ref a2) ∧ Fld Z h a1 "com/example/mayfly/mayfly/store/Item" "flags" "I" (.int p3) ∧ Fld Z h a1 "com/example/mayfly/mayfly/store/Item" "deadline" "J" (.long q4) ∧ Fld Z h a1 "com/example/mayfly/mayfly/store/Item" "cas" "J" (.long (0 : Int64)) ∧ Fld Z h a1 "com/example/mayfly/mayfly/store/Item" "read" "Z" (.int (0 : Int32))
theorem d_prog_15_method_1_code_0 : decode prog_15_method_1_code 0 = .ok (.aload_n 0, 1) := by decide +kernel
theorem d_prog_15_method_1_code_1 : decode prog_15_method_1_code 1 = .ok (.aload_n 1, 1) := by decide +kernel
theorem d_prog_15_method_1_code_2 : decode prog_15_method_1_code 2 = .ok (.iload_n 2, 1) := by decide +kernel
theorem d_prog_15_method_1_code_3 : decode prog_15_method_1_code 3 = .ok (.lload_n 3, 1) := by decide +kernel
theorem d_prog_15_method_1_code_4 : decode prog_15_method_1_code 4 = .ok (.lconst 0, 1) := by decide +kernel
theorem d_prog_15_method_1_code_5 : decode prog_15_method_1_code 5 = .ok (.iconst 0, 1) := by decide +kernel
theorem d_prog_15_method_1_code_6 : decode prog_15_method_1_code 6 = .ok (.invokespecial 1, 3) := by decide +kernel
theorem pd___BIJJZ_V : parseMethodDescriptor "([BIJJZ)V" = some ⟨[(.array .byte), .int, .long, .long, .boolean], none⟩ := by decide +kernel
theorem d_prog_15_method_1_code_9 : decode prog_15_method_1_code 9 = .ok (.return_, 1) := by decide +kernel
set_option maxRecDepth 65536 in
set_option maxHeartbeats 40000000 in
theorem rm_item3 (l : Launch) (Z : State) (a0 : Array Value) (hw : ∀ d ∈ tables_1, d.before a0 Z = true) (ws : List Jvm.Cond)  (a1 : Addr) (a2 : Addr) (p3 : Int32) (q4 : Int64) (h0 : Heap) (n0 : Nat) (Z0 : n0 ≤ h0.size) (I0 : Exa Z h0 a1 "com/example/mayfly/mayfly/store/Item") (I1 : Fld Z h0 a1 "com/example/mayfly/mayfly/store/Item" "value" "[B" .null) (I2 : Fld Z h0 a1 "com/example/mayfly/mayfly/store/Item" "flags" "I" (.int (0 : Int32))) (I3 : Fld Z h0 a1 "com/example/mayfly/mayfly/store/Item" "deadline" "J" (.long (0 : Int64))) (I4 : Fld Z h0 a1 "com/example/mayfly/mayfly/store/Item" "cas" "J" (.long (0 : Int64))) (I5 : Fld Z h0 a1 "com/example/mayfly/mayfly/store/Item" "read" "Z" (.int (0 : Int32))) (ge_a1 : n0 ≤ a1) :
    MetFree l (⟨"com/example/mayfly/mayfly/store/Item", "<init>", "([BIJ)V"⟩ : MethodName) (head1 (Jvm.Cond.code (⟨"com/example/mayfly/mayfly/store/Item", "<init>", "([BIJ)V"⟩ : MethodName) prog_15_method_1_code 5 none :: ws) ({ frames := 2, cells := 0, slots := 0, locals := 31 } : Room)) (fun a U => a = #[(.ref a1), (.ref a2), (.int p3), (.long q4)] ∧ Z.Warmed39 U.vm ∧ U.heap = h0) (fun _ _ _ _ _ => True) (fun _ U o U' => ∃ v L, o = .returned v ∧ (K_rm_item3  Z h0 n0 a1 a2 p3 q4) v U'.heap L ∧ FrameEnd U o U' L ({ frames := 2, cells := 0, slots := 0, locals := 31 } : Room).cells ({ frames := 2, cells := 0, slots := 0, locals := 31 } : Room).slots) := by
  refine own_body (plainFor_of_name pn_com_example_mayfly_mayfly_store_Item) ?_
  intro p e s m below meth c s₁ hx hby hml hown hnm hret hlk hZ X0 e0
  have hown : s.vm.findClass "com/example/mayfly/mayfly/store/Item" = some m.cls := hown
  have N0 := Fr.nil n0
  rw [ef_rm_item3 m a1 a2 p3 q4]
  have K0 := Keep.refl h0 [a1]
  refine own_aloadN X0 hx (pc' := 1) rfl (hb hby d_prog_15_method_1_code_0) rfl rfl ?_
  refine own_aloadN X0 hx (pc' := 2) rfl (hb hby d_prog_15_method_1_code_1) rfl rfl ?_
  refine own_iloadN X0 hx (pc' := 3) rfl (hb hby d_prog_15_method_1_code_2) rfl ?_
  refine own_lloadN X0 hx (pc' := 4) rfl (hb hby d_prog_15_method_1_code_3) rfl ?_
  refine own_lconst X0 hx (v := (0 : Int64)) (pc' := 5) rfl (hb hby d_prog_15_method_1_code_4) rfl ?_
  refine own_iconst X0 hx (v := (0 : Int32)) (pc' := 6) rfl (hb hby d_prog_15_method_1_code_5) rfl ?_
  refine own_callC X0 hx hZ (y := (⟨"com/example/mayfly/mayfly/store/Item", "<init>", "([BIJJZ)V"⟩ : MethodName)) rfl hown (hw _ (List.mem_of_getElem? (i := 7) rfl)) (hw _ (List.mem_of_getElem? (i := 8) rfl)) (hw _ (List.mem_of_getElem? (i := 3) rfl)) (hw _ (List.mem_of_getElem? (i := 9) rfl))  (by decide) (rm_item5 l Z a0 hw [] a1 a2 p3 q4 (0 : Int64) (0 : Int32) h0 n0 Z0 I0 I1 I2 I3 I4 I5 ge_a1 rfl) (by decide) (W := 0) (by decide) (by decide) (by decide) e0 (by rw [hml]; rfl) (argsL := [(.ref a2), (.int p3), (.long q4), (.long (0 : Int64)), (.int (0 : Int32))]) (rest := []) rfl (lenOf pd___BIJJZ_V rfl) rfl (Nat.le_of_eq rfl) (pc' := 9) rfl (hb hby d_prog_15_method_1_code_6) ?_
  rintro _ T1 L1 X1 ⟨rfl, N1, K1, G1_0, G1_1, G1_2, G1_3, G1_4, G1_5⟩
  have M1 := Fr.app N0 N1
  obtain ⟨h1, e1⟩ : ∃ z, T1.heap = z := ⟨_, rfl⟩
  rw [e1] at K1 G1_0 G1_1 G1_2 G1_3 G1_4 G1_5
  have S2 := Nat.le_trans Z0 K1.1
  have E3 := I0.keep K1
  have Q1 := Keep.trans K0 K1 (by intro z hz; simp at hz ⊢; first | exact Or.inl hz | (subst hz; simp))
  show own_Goes p e below T1 (mkF m 9 #[.val (.ref a1), .val (.ref a2), .val (.int p3), .val (.long q4), .second] []) (own_Ret s (K_rm_item3  Z h0 n0 a1 a2 p3 q4) ({ frames := 2, cells := 0, slots := 0, locals := 31 } : Room).cells ({ frames := 2, cells := 0, slots := 0, locals := 31 } : Room).slots)
  refine own_ret X1 hx hlk hret (hb hby d_prog_15_method_1_code_9) (by decide) (by decide) ?_
  rw [e1]
  exact ⟨rfl, M1, Q1, E3, G1_1, G1_2, G1_3, G1_4, G1_5⟩
theorem ef_rm_rec (m : MethodId) (a1 : Addr) : entryFrame m #[(.ref a1)] 1 = mkF m 0 #[.val (.ref a1)] [] := by first | (simp [entryFrame, mkF, argsToLocals, Value.category]; done) | rfl
def K_rm_rec  (Z : State) (h0 : Heap) (n0 : Nat) (a1 : Addr) (v : Option Value) (h : Heap) (L : List Loc) : Prop := v = none ∧ Fr n0 L ∧ h = h0
theorem d_jdk_30_method_1_code_0 : decode jdk_30_method_1_code 0 = .ok (.aload_n 0, 1) := by decide +kernel
theorem d_jdk_30_method_1_code_1 : decode jdk_30_method_1_code 1 = .ok (.invokespecial 1, 3) := by decide +kernel
theorem d_jdk_30_method_1_code_4 : decode jdk_30_method_1_code 4 = .ok (.return_, 1) := by decide +kernel
theorem pn_java_lang_Record : plainName "java/lang/Record" = true := by first | (simp [plainName, overriddenIn]; done) | decide +kernel
set_option maxRecDepth 65536 in
set_option maxHeartbeats 40000000 in
theorem rm_rec (l : Launch) (Z : State) (a0 : Array Value) (hw : ∀ d ∈ tables_1, d.before a0 Z = true) (ws : List Jvm.Cond)  (a1 : Addr) (h0 : Heap) (n0 : Nat) (Z0 : n0 ≤ h0.size) :
    MetFree l (⟨"java/lang/Record", "<init>", "()V"⟩ : MethodName) (head1 (Jvm.Cond.code (⟨"java/lang/Record", "<init>", "()V"⟩ : MethodName) jdk_30_method_1_code 1 none :: ws) ({ frames := 1, cells := 0, slots := 0, locals := 12 } : Room)) (fun a U => a = #[(.ref a1)] ∧ Z.Warmed39 U.vm ∧ U.heap = h0) (fun _ _ _ _ _ => True) (fun _ U o U' => ∃ v L, o = .returned v ∧ (K_rm_rec  Z h0 n0 a1) v U'.heap L ∧ FrameEnd U o U' L ({ frames := 1, cells := 0, slots := 0, locals := 12 } : Room).cells ({ frames := 1, cells := 0, slots := 0, locals := 12 } : Room).slots) := by
  refine own_body (plainFor_of_name pn_java_lang_Record) ?_
  intro p e s m below meth c s₁ hx hby hml hown hnm hret hlk hZ X0 e0
  have hown : s.vm.findClass "java/lang/Record" = some m.cls := hown
  have N0 := Fr.nil n0
  rw [ef_rm_rec m a1]
  refine own_aloadN X0 hx (pc' := 1) rfl (hb hby d_jdk_30_method_1_code_0) rfl rfl ?_
  refine own_initO X0 hx hZ hown (hw _ (List.mem_of_getElem? (i := 38) rfl)) (hw _ (List.mem_of_getElem? (i := 11) rfl)) (hw _ (List.mem_of_getElem? (i := 12) rfl)) e0 (by rw [hml]; rfl) (pc' := 4) rfl (hb hby d_jdk_30_method_1_code_1) (by decide) (W := 0) (Nat.le_of_eq rfl) (by decide) ?_
  intro T1 X1 e1
  refine own_ret X1 hx hlk hret (hb hby d_jdk_30_method_1_code_4) (by decide) (by decide) ?_
  rw [e1]
  exact ⟨rfl, N0, rfl⟩
theorem ef_rm_upd (m : MethodId) (a1 : Addr) (r2 : Value) (r3 : Value) (p4 : Int32) (hr_r2 : r2.isRef = true) (hr_r3 : r3.isRef = true) : entryFrame m #[(.ref a1), r2, r3, (.int p4)] 4 = mkF m 0 #[.val (.ref a1), .val r2, .val r3, .val (.int p4)] [] := by rcases XT.refc hr_r2 with rfl | ⟨_, rfl⟩ <;> rcases XT.refc hr_r3 with rfl | ⟨_, rfl⟩ <;> first | (simp [entryFrame, mkF, argsToLocals, Value.category]; done) | rfl
def K_rm_upd  (Z : State) (h0 : Heap) (n0 : Nat) (a1 : Addr) (r2 : Value) (r3 : Value) (p4 : Int32) (v : Option Value) (h : Heap) (L : List Loc) : Prop := v = none ∧ Fr n0 L ∧ Keep h0 h [a1] ∧ Exa Z h a1 "com/example/mayfly/mayfly/store/Store$Update" ∧ Fld Z h a1 "com/example/mayfly/mayfly/store/Store$Update" "before" "Lcom/example/mayfly/mayfly/store/Item;" r2 ∧ Fld Z h a1 "com/example/mayfly/mayfly/store/Store$Update" "after" "Lcom/example/mayfly/mayfly/store/Item;" r3
theorem d_prog_31_method_1_code_0 : decode prog_31_method_1_code 0 = .ok (.aload_n 0, 1) := by decide +kernel
theorem d_prog_31_method_1_code_1 : decode prog_31_method_1_code 1 = .ok (.invokespecial 1, 3) := by decide +kernel
theorem pd___V : parseMethodDescriptor "()V" = some ⟨[], none⟩ := by decide +kernel
theorem d_prog_31_method_1_code_4 : decode prog_31_method_1_code 4 = .ok (.aload_n 0, 1) := by decide +kernel
theorem d_prog_31_method_1_code_5 : decode prog_31_method_1_code 5 = .ok (.aload_n 1, 1) := by decide +kernel
theorem d_prog_31_method_1_code_6 : decode prog_31_method_1_code 6 = .ok (.putfield 7, 3) := by decide +kernel
theorem d_prog_31_method_1_code_9 : decode prog_31_method_1_code 9 = .ok (.aload_n 0, 1) := by decide +kernel
theorem d_prog_31_method_1_code_10 : decode prog_31_method_1_code 10 = .ok (.aload_n 2, 1) := by decide +kernel
theorem d_prog_31_method_1_code_11 : decode prog_31_method_1_code 11 = .ok (.putfield 13, 3) := by decide +kernel
theorem d_prog_31_method_1_code_14 : decode prog_31_method_1_code 14 = .ok (.aload_n 0, 1) := by decide +kernel
theorem d_prog_31_method_1_code_15 : decode prog_31_method_1_code 15 = .ok (.iload_n 3, 1) := by decide +kernel
theorem d_prog_31_method_1_code_16 : decode prog_31_method_1_code 16 = .ok (.putfield 16, 3) := by decide +kernel
theorem d_prog_31_method_1_code_19 : decode prog_31_method_1_code 19 = .ok (.return_, 1) := by decide +kernel
theorem pn_com_example_mayfly_mayfly_store_Store_Update : plainName "com/example/mayfly/mayfly/store/Store$Update" = true := by first | (simp [plainName, overriddenIn]; done) | decide +kernel
set_option maxRecDepth 65536 in
set_option maxHeartbeats 40000000 in
theorem rm_upd (l : Launch) (Z : State) (a0 : Array Value) (hw : ∀ d ∈ tables_1, d.before a0 Z = true) (ws : List Jvm.Cond)  (a1 : Addr) (r2 : Value) (r3 : Value) (p4 : Int32) (h0 : Heap) (n0 : Nat) (Z0 : n0 ≤ h0.size) (I0 : Exa Z h0 a1 "com/example/mayfly/mayfly/store/Store$Update") (I1 : Fld Z h0 a1 "com/example/mayfly/mayfly/store/Store$Update" "before" "Lcom/example/mayfly/mayfly/store/Item;" .null) (I2 : Fld Z h0 a1 "com/example/mayfly/mayfly/store/Store$Update" "after" "Lcom/example/mayfly/mayfly/store/Item;" .null) (I3 : Fld Z h0 a1 "com/example/mayfly/mayfly/store/Store$Update" "expired" "Z" (.int (0 : Int32))) (ge_a1 : n0 ≤ a1) (hr_r2 : r2.isRef = true) (hr_r3 : r3.isRef = true) (hz : p4 = (0 : Int32) ∨ p4 = (1 : Int32)) :
    MetFree l (⟨"com/example/mayfly/mayfly/store/Store$Update", "<init>", "(Lcom/example/mayfly/mayfly/store/Item;Lcom/example/mayfly/mayfly/store/Item;Z)V"⟩ : MethodName) (head1 (Jvm.Cond.code (⟨"com/example/mayfly/mayfly/store/Store$Update", "<init>", "(Lcom/example/mayfly/mayfly/store/Item;Lcom/example/mayfly/mayfly/store/Item;Z)V"⟩ : MethodName) prog_31_method_1_code 4 none :: ws) ({ frames := 2, cells := 0, slots := 0, locals := 24 } : Room)) (fun a U => a = #[(.ref a1), r2, r3, (.int p4)] ∧ Z.Warmed39 U.vm ∧ U.heap = h0) (fun _ _ _ _ _ => True) (fun _ U o U' => ∃ v L, o = .returned v ∧ (K_rm_upd  Z h0 n0 a1 r2 r3 p4) v U'.heap L ∧ FrameEnd U o U' L ({ frames := 2, cells := 0, slots := 0, locals := 24 } : Room).cells ({ frames := 2, cells := 0, slots := 0, locals := 24 } : Room).slots) := by
  refine own_body (plainFor_of_name pn_com_example_mayfly_mayfly_store_Store_Update) ?_
  intro p e s m below meth c s₁ hx hby hml hown hnm hret hlk hZ X0 e0
  have hown : s.vm.findClass "com/example/mayfly/mayfly/store/Store$Update" = some m.cls := hown
  have N0 := Fr.nil n0
  rw [ef_rm_upd m a1 r2 r3 p4 hr_r2 hr_r3]
  have K0 := Keep.refl h0 [a1]
  refine own_aloadN X0 hx (pc' := 1) rfl (hb hby d_prog_31_method_1_code_0) rfl rfl ?_
  refine own_callC X0 hx hZ (y := (⟨"java/lang/Record", "<init>", "()V"⟩ : MethodName)) rfl hown (hw _ (List.mem_of_getElem? (i := 33) rfl)) (hw _ (List.mem_of_getElem? (i := 34) rfl)) (hw _ (List.mem_of_getElem? (i := 36) rfl)) (hw _ (List.mem_of_getElem? (i := 37) rfl))  (by decide) (rm_rec l Z a0 hw [] a1 h0 n0 Z0) (by decide) (W := 0) (by decide) (by decide) (by decide) e0 (by rw [hml]; rfl) (argsL := []) (rest := []) rfl (lenOf pd___V rfl) rfl (Nat.le_of_eq rfl) (pc' := 4) rfl (hb hby d_prog_31_method_1_code_1) ?_
  rintro _ T1 L1 X1 ⟨rfl, N1, e1⟩
  have M1 := Fr.app N0 N1
  show own_Goes p e below T1 (mkF m 4 #[.val (.ref a1), .val r2, .val r3, .val (.int p4)] []) (own_Ret s (K_rm_upd  Z h0 n0 a1 r2 r3 p4) ({ frames := 2, cells := 0, slots := 0, locals := 24 } : Room).cells ({ frames := 2, cells := 0, slots := 0, locals := 24 } : Room).slots)
  refine own_aloadN X1 hx (pc' := 5) rfl (hb hby d_prog_31_method_1_code_4) rfl rfl ?_
  refine own_aloadN X1 hx (pc' := 6) rfl (hb hby d_prog_31_method_1_code_5) rfl hr_r2 ?_
  refine own_putF X1 hx hZ hown (host := "") (Or.inl (hw _ (List.mem_of_getElem? (i := 39) rfl))) Via.refl e1 I1 I0 (Or.inr ⟨(hw _ (List.mem_of_getElem? (i := 40) rfl)), rfl, hnm⟩) (hw _ (List.mem_of_getElem? (i := 28) rfl)) (ty := (.object "com/example/mayfly/mayfly/store/Item")) (by decide) rfl (own_fitR hr_r2) (pc' := 9) rfl (hb hby d_prog_31_method_1_code_6) ?_
  intro T2 h2 X2 e2 W2
  have F3 := Fld.same W2 I1
  have S4 := own_sizWr W2 Z0
  have E5 := Exa.wr W2 I0
  have F7 := Fld.other W2 I2 (Or.inr (slot_ne (Or.inr (hw _ (List.mem_of_getElem? (i := 42) rfl))) (Or.inr (hw _ (List.mem_of_getElem? (i := 40) rfl))) (by decide) (t := (.object "com/example/mayfly/mayfly/store/Item")) (t' := (.object "com/example/mayfly/mayfly/store/Item")) (by decide) (by decide)))
  have F8 := Fld.other W2 I3 (Or.inr (slot_ne (Or.inr (hw _ (List.mem_of_getElem? (i := 44) rfl))) (Or.inr (hw _ (List.mem_of_getElem? (i := 40) rfl))) (by decide) (t := .boolean) (t' := (.object "com/example/mayfly/mayfly/store/Item")) (by decide) (by decide)))
  have N2 := Fr.snoc X2 M1 ge_a1
  have K2 := Keep.wr K0 W2 (Or.inl (by simp))
  refine own_aloadN X2 hx (pc' := 10) rfl (hb hby d_prog_31_method_1_code_9) rfl rfl ?_
  refine own_aloadN X2 hx (pc' := 11) rfl (hb hby d_prog_31_method_1_code_10) rfl hr_r3 ?_
  refine own_putF X2 hx hZ hown (host := "") (Or.inl (hw _ (List.mem_of_getElem? (i := 41) rfl))) Via.refl e2 F7 E5 (Or.inr ⟨(hw _ (List.mem_of_getElem? (i := 42) rfl)), rfl, hnm⟩) (hw _ (List.mem_of_getElem? (i := 28) rfl)) (ty := (.object "com/example/mayfly/mayfly/store/Item")) (by decide) rfl (own_fitR hr_r3) (pc' := 14) rfl (hb hby d_prog_31_method_1_code_11) ?_
  intro T9 h9 X9 e9 W9
  have F10 := Fld.same W9 F7
  have S11 := own_sizWr W9 S4
  have E12 := Exa.wr W9 E5
  have F14 := Fld.other W9 F8 (Or.inr (slot_ne (Or.inr (hw _ (List.mem_of_getElem? (i := 44) rfl))) (Or.inr (hw _ (List.mem_of_getElem? (i := 42) rfl))) (by decide) (t := .boolean) (t' := (.object "com/example/mayfly/mayfly/store/Item")) (by decide) (by decide)))
  have F15 := Fld.other W9 F3 (Or.inr (slot_ne (Or.inr (hw _ (List.mem_of_getElem? (i := 40) rfl))) (Or.inr (hw _ (List.mem_of_getElem? (i := 42) rfl))) (by decide) (t := (.object "com/example/mayfly/mayfly/store/Item")) (t' := (.object "com/example/mayfly/mayfly/store/Item")) (by decide) (by decide)))
  have N9 := Fr.snoc X9 N2 ge_a1
  have K9 := Keep.wr K2 W9 (Or.inl (by simp))
  refine own_aloadN X9 hx (pc' := 15) rfl (hb hby d_prog_31_method_1_code_14) rfl rfl ?_
  refine own_iloadN X9 hx (pc' := 16) rfl (hb hby d_prog_31_method_1_code_15) rfl ?_
  refine own_putF X9 hx hZ hown (host := "") (Or.inl (hw _ (List.mem_of_getElem? (i := 43) rfl))) Via.refl e9 F14 E12 (Or.inr ⟨(hw _ (List.mem_of_getElem? (i := 44) rfl)), rfl, hnm⟩) (hw _ (List.mem_of_getElem? (i := 28) rfl)) (ty := .boolean) (by decide) (by rcases hz with rfl | rfl <;> rfl) (by rcases hz with rfl | rfl <;> rfl) (pc' := 19) rfl (hb hby d_prog_31_method_1_code_16) ?_
  intro T16 h16 X16 e16 W16
  have F17 := Fld.same W16 F14
  have S18 := own_sizWr W16 S11
  have E19 := Exa.wr W16 E12
  have F21 := Fld.other W16 F15 (Or.inr (slot_ne (Or.inr (hw _ (List.mem_of_getElem? (i := 40) rfl))) (Or.inr (hw _ (List.mem_of_getElem? (i := 44) rfl))) (by decide) (t := (.object "com/example/mayfly/mayfly/store/Item")) (t' := .boolean) (by decide) (by decide)))
  have F22 := Fld.other W16 F10 (Or.inr (slot_ne (Or.inr (hw _ (List.mem_of_getElem? (i := 42) rfl))) (Or.inr (hw _ (List.mem_of_getElem? (i := 44) rfl))) (by decide) (t := (.object "com/example/mayfly/mayfly/store/Item")) (t' := .boolean) (by decide) (by decide)))
  have N16 := Fr.snoc X16 N9 ge_a1
  have K16 := Keep.wr K9 W16 (Or.inl (by simp))
  refine own_ret X16 hx hlk hret (hb hby d_prog_31_method_1_code_19) (by decide) (by decide) ?_
  rw [e16]
  exact ⟨rfl, N16, K16, E19, F21, F22⟩
def own_pick (p : Int32) (x y : Addr) : Value := if p = 0 then .null else if p = (2 : Int32) then .ref y else .ref x
theorem own_pickR (p : Int32) (x y : Addr) : (own_pick p x y).isRef = true := by
  unfold own_pick
  split
  · rfl
  · split <;> rfl
def own_id (p : Int32) : Int32 := if p = (3 : Int32) then 1 else p
def own_chg (x y : Value) : Int32 := if x = y then 0 else 1
theorem ef_rm_pick (m : MethodId) (p1 : Int32) (a2 : Addr) (a3 : Addr) : entryFrame m #[(.int p1), (.ref a2), (.ref a3)] 3 = mkF m 0 #[.val (.int p1), .val (.ref a2), .val (.ref a3)] [] := by first | (simp [entryFrame, mkF, argsToLocals, Value.category]; done) | rfl
def K_rm_pick  (Z : State) (h0 : Heap) (n0 : Nat) (p1 : Int32) (a2 : Addr) (a3 : Addr) (v : Option Value) (h : Heap) (L : List Loc) : Prop := v = some (own_pick p1 a2 a3) ∧ Fr n0 L ∧ h = h0
theorem d_method_3_code_0 : decode method_3_code 0 = .ok (.iload_n 0, 1) := by decide +kernel
theorem d_method_3_code_1 : decode method_3_code 1 = .ok (.ifCond .ne 5, 3) := by decide +kernel
theorem d_method_3_code_4 : decode method_3_code 4 = .ok (.aconst_null, 1) := by decide +kernel
theorem d_method_3_code_5 : decode method_3_code 5 = .ok (.areturn, 1) := by decide +kernel
theorem d_method_3_code_6 : decode method_3_code 6 = .ok (.iload_n 0, 1) := by decide +kernel
theorem d_method_3_code_7 : decode method_3_code 7 = .ok (.iconst 2, 1) := by decide +kernel
theorem d_method_3_code_8 : decode method_3_code 8 = .ok (.if_icmp .ne 5, 3) := by decide +kernel
theorem d_method_3_code_11 : decode method_3_code 11 = .ok (.aload_n 2, 1) := by decide +kernel
theorem d_method_3_code_12 : decode method_3_code 12 = .ok (.areturn, 1) := by decide +kernel
theorem d_method_3_code_13 : decode method_3_code 13 = .ok (.aload_n 1, 1) := by decide +kernel
theorem d_method_3_code_14 : decode method_3_code 14 = .ok (.areturn, 1) := by decide +kernel
theorem pn_com_example_mayfly_mayfly_store_UpdateChangedPinLaw : plainName "com/example/mayfly/mayfly/store/UpdateChangedPinLaw" = true := by first | (simp [plainName, overriddenIn]; done) | decide +kernel
set_option maxRecDepth 65536 in
set_option maxHeartbeats 40000000 in
theorem rm_pick (l : Launch) (Z : State) (a0 : Array Value) (hw : ∀ d ∈ tables_1, d.before a0 Z = true) (ws : List Jvm.Cond)  (p1 : Int32) (a2 : Addr) (a3 : Addr) (h0 : Heap) (n0 : Nat) (Z0 : n0 ≤ h0.size) :
    MetFree l (⟨"com/example/mayfly/mayfly/store/UpdateChangedPinLaw", "pick", "(ILcom/example/mayfly/mayfly/store/Item;Lcom/example/mayfly/mayfly/store/Item;)Lcom/example/mayfly/mayfly/store/Item;"⟩ : MethodName) (head1 (Jvm.Cond.code (⟨"com/example/mayfly/mayfly/store/UpdateChangedPinLaw", "pick", "(ILcom/example/mayfly/mayfly/store/Item;Lcom/example/mayfly/mayfly/store/Item;)Lcom/example/mayfly/mayfly/store/Item;"⟩ : MethodName) method_3_code 3 (some (.object "com/example/mayfly/mayfly/store/Item")) :: ws) ({ frames := 0, cells := 0, slots := 0, locals := 0 } : Room)) (fun a U => a = #[(.int p1), (.ref a2), (.ref a3)] ∧ Z.Warmed39 U.vm ∧ U.heap = h0) (fun _ _ _ _ _ => True) (fun _ U o U' => ∃ v L, o = .returned v ∧ (K_rm_pick  Z h0 n0 p1 a2 a3) v U'.heap L ∧ FrameEnd U o U' L ({ frames := 0, cells := 0, slots := 0, locals := 0 } : Room).cells ({ frames := 0, cells := 0, slots := 0, locals := 0 } : Room).slots) := by
  refine own_body (plainFor_of_name pn_com_example_mayfly_mayfly_store_UpdateChangedPinLaw) ?_
  intro p e s m below meth c s₁ hx hby hml hown hnm hret hlk hZ X0 e0
  have hown : s.vm.findClass "com/example/mayfly/mayfly/store/UpdateChangedPinLaw" = some m.cls := hown
  have N0 := Fr.nil n0
  rw [ef_rm_pick m p1 a2 a3]
  refine own_iloadN X0 hx (pc' := 1) rfl (hb hby d_method_3_code_0) rfl ?_
  by_cases c1_1 : p1 = 0
  · refine own_ifF X0 hx (pc' := 4) rfl (hb hby d_method_3_code_1) (XT.i0_ne_f c1_1) ?_
    refine own_anull X0 hx (pc' := 5) rfl (hb hby d_method_3_code_4) ?_
    refine own_aret X0 hx hlk hret rfl rfl (hb hby d_method_3_code_5) (by decide) (by decide) ?_
    rw [e0]
    exact ⟨by first | (simp only [own_pick, if_pos c1_1]; done) | (simp only [own_pick, if_pos c1_1]; rfl), N0, rfl⟩
  · refine own_ifT X0 hx (pc' := 6) (hb hby d_method_3_code_1) (XT.i0_ne_t c1_1) (by decide) (by decide) ?_
    refine own_iloadN X0 hx (pc' := 7) rfl (hb hby d_method_3_code_6) rfl ?_
    refine own_iconst X0 hx (v := (2 : Int32)) (pc' := 8) rfl (hb hby d_method_3_code_7) rfl ?_
    by_cases c8_2 : p1 = (2 : Int32)
    · refine own_icmpF X0 hx (pc' := 11) rfl (hb hby d_method_3_code_8) (XT.ii_ne_f c8_2) ?_
      refine own_aloadN X0 hx (pc' := 12) rfl (hb hby d_method_3_code_11) rfl rfl ?_
      refine own_aret X0 hx hlk hret rfl rfl (hb hby d_method_3_code_12) (by decide) (by decide) ?_
      rw [e0]
      exact ⟨by first | (simp only [own_pick, if_neg c1_1, if_pos c8_2]; done) | (simp only [own_pick, if_neg c1_1, if_pos c8_2]; rfl), N0, rfl⟩
    · refine own_icmpT X0 hx (pc' := 13) (hb hby d_method_3_code_8) (XT.ii_ne_t c8_2) (by decide) (by decide) ?_
      refine own_aloadN X0 hx (pc' := 14) rfl (hb hby d_method_3_code_13) rfl rfl ?_
      refine own_aret X0 hx hlk hret rfl rfl (hb hby d_method_3_code_14) (by decide) (by decide) ?_
      rw [e0]
      exact ⟨by first | (simp only [own_pick, if_neg c1_1, if_neg c8_2]; done) | (simp only [own_pick, if_neg c1_1, if_neg c8_2]; rfl), N0, rfl⟩
theorem ef_rm_id (m : MethodId) (p1 : Int32) : entryFrame m #[(.int p1)] 1 = mkF m 0 #[.val (.int p1)] [] := by first | (simp [entryFrame, mkF, argsToLocals, Value.category]; done) | rfl
def K_rm_id  (Z : State) (h0 : Heap) (n0 : Nat) (p1 : Int32) (v : Option Value) (h : Heap) (L : List Loc) : Prop := v = some (.int (own_id p1)) ∧ Fr n0 L ∧ h = h0
theorem d_method_2_code_0 : decode method_2_code 0 = .ok (.iload_n 0, 1) := by decide +kernel
theorem d_method_2_code_1 : decode method_2_code 1 = .ok (.iconst 3, 1) := by decide +kernel
theorem d_method_2_code_2 : decode method_2_code 2 = .ok (.if_icmp .ne 7, 3) := by decide +kernel
theorem d_method_2_code_5 : decode method_2_code 5 = .ok (.iconst 1, 1) := by decide +kernel
theorem d_method_2_code_6 : decode method_2_code 6 = .ok (.goto 4, 3) := by decide +kernel
theorem d_method_2_code_10 : decode method_2_code 10 = .ok (.ireturn, 1) := by decide +kernel
theorem d_method_2_code_9 : decode method_2_code 9 = .ok (.iload_n 0, 1) := by decide +kernel
set_option maxRecDepth 65536 in
set_option maxHeartbeats 40000000 in
theorem rm_id (l : Launch) (Z : State) (a0 : Array Value) (hw : ∀ d ∈ tables_1, d.before a0 Z = true) (ws : List Jvm.Cond)  (p1 : Int32) (h0 : Heap) (n0 : Nat) (Z0 : n0 ≤ h0.size) :
    MetFree l (⟨"com/example/mayfly/mayfly/store/UpdateChangedPinLaw", "ident", "(I)I"⟩ : MethodName) (head1 (Jvm.Cond.code (⟨"com/example/mayfly/mayfly/store/UpdateChangedPinLaw", "ident", "(I)I"⟩ : MethodName) method_2_code 1 (some .int) :: ws) ({ frames := 0, cells := 0, slots := 0, locals := 0 } : Room)) (fun a U => a = #[(.int p1)] ∧ Z.Warmed39 U.vm ∧ U.heap = h0) (fun _ _ _ _ _ => True) (fun _ U o U' => ∃ v L, o = .returned v ∧ (K_rm_id  Z h0 n0 p1) v U'.heap L ∧ FrameEnd U o U' L ({ frames := 0, cells := 0, slots := 0, locals := 0 } : Room).cells ({ frames := 0, cells := 0, slots := 0, locals := 0 } : Room).slots) := by
  refine own_body (plainFor_of_name pn_com_example_mayfly_mayfly_store_UpdateChangedPinLaw) ?_
  intro p e s m below meth c s₁ hx hby hml hown hnm hret hlk hZ X0 e0
  have hown : s.vm.findClass "com/example/mayfly/mayfly/store/UpdateChangedPinLaw" = some m.cls := hown
  have N0 := Fr.nil n0
  rw [ef_rm_id m p1]
  refine own_iloadN X0 hx (pc' := 1) rfl (hb hby d_method_2_code_0) rfl ?_
  refine own_iconst X0 hx (v := (3 : Int32)) (pc' := 2) rfl (hb hby d_method_2_code_1) rfl ?_
  by_cases c2_1 : p1 = (3 : Int32)
  · refine own_icmpF X0 hx (pc' := 5) rfl (hb hby d_method_2_code_2) (XT.ii_ne_f c2_1) ?_
    refine own_iconst X0 hx (v := (1 : Int32)) (pc' := 6) rfl (hb hby d_method_2_code_5) rfl ?_
    refine own_goto X0 hx (pc' := 10) (hb hby d_method_2_code_6) (by decide) (by decide) ?_
    refine own_iret X0 hx hlk hret (hb hby d_method_2_code_10) (by decide) (by decide) ?_
    rw [e0]
    exact ⟨by first | (simp only [own_id, if_pos c2_1]; done) | (simp only [own_id, if_pos c2_1]; rfl), N0, rfl⟩
  · refine own_icmpT X0 hx (pc' := 9) (hb hby d_method_2_code_2) (XT.ii_ne_t c2_1) (by decide) (by decide) ?_
    refine own_iloadN X0 hx (pc' := 10) rfl (hb hby d_method_2_code_9) rfl ?_
    refine own_iret X0 hx hlk hret (hb hby d_method_2_code_10) (by decide) (by decide) ?_
    rw [e0]
    exact ⟨by first | (simp only [own_id, if_neg c2_1]; done) | (simp only [own_id, if_neg c2_1]; rfl), N0, rfl⟩
theorem ef_rm_chg (m : MethodId) (a1 : Addr)  : entryFrame m #[(.ref a1)] 1 = mkF m 0 #[.val (.ref a1)] [] := by first | (simp [entryFrame, mkF, argsToLocals, Value.category]; done) | rfl
def K_rm_chg (r2 : Value) (r3 : Value) (Z : State) (h0 : Heap) (n0 : Nat) (a1 : Addr) (v : Option Value) (h : Heap) (L : List Loc) : Prop := v = some (.int (own_chg r3 r2)) ∧ Fr n0 L ∧ h = h0
theorem d_prog_31_method_2_code_0 : decode prog_31_method_2_code 0 = .ok (.aload_n 0, 1) := by decide +kernel
theorem d_prog_31_method_2_code_1 : decode prog_31_method_2_code 1 = .ok (.getfield 13, 3) := by decide +kernel
theorem d_prog_31_method_2_code_4 : decode prog_31_method_2_code 4 = .ok (.aload_n 0, 1) := by decide +kernel
theorem d_prog_31_method_2_code_5 : decode prog_31_method_2_code 5 = .ok (.getfield 7, 3) := by decide +kernel
theorem d_prog_31_method_2_code_8 : decode prog_31_method_2_code 8 = .ok (.if_acmp .eq 7, 3) := by decide +kernel
theorem d_prog_31_method_2_code_15 : decode prog_31_method_2_code 15 = .ok (.iconst 0, 1) := by decide +kernel
theorem d_prog_31_method_2_code_16 : decode prog_31_method_2_code 16 = .ok (.ireturn, 1) := by decide +kernel
theorem d_prog_31_method_2_code_11 : decode prog_31_method_2_code 11 = .ok (.iconst 1, 1) := by decide +kernel
theorem d_prog_31_method_2_code_12 : decode prog_31_method_2_code 12 = .ok (.goto 4, 3) := by decide +kernel
set_option maxRecDepth 65536 in
set_option maxHeartbeats 40000000 in
theorem rm_chg (l : Launch) (Z : State) (a0 : Array Value) (hw : ∀ d ∈ tables_1, d.before a0 Z = true) (ws : List Jvm.Cond) (r2 : Value) (r3 : Value) (a1 : Addr) (h0 : Heap) (n0 : Nat) (Z0 : n0 ≤ h0.size) (I0 : Exa Z h0 a1 "com/example/mayfly/mayfly/store/Store$Update") (I1 : Fld Z h0 a1 "com/example/mayfly/mayfly/store/Store$Update" "before" "Lcom/example/mayfly/mayfly/store/Item;" r2) (I2 : Fld Z h0 a1 "com/example/mayfly/mayfly/store/Store$Update" "after" "Lcom/example/mayfly/mayfly/store/Item;" r3) (hr_r2 : r2.isRef = true) (hr_r3 : r3.isRef = true) :
    MetFree l (⟨"com/example/mayfly/mayfly/store/Store$Update", "changed", "()Z"⟩ : MethodName) (head1 (Jvm.Cond.code (⟨"com/example/mayfly/mayfly/store/Store$Update", "changed", "()Z"⟩ : MethodName) prog_31_method_2_code 1 (some .boolean) :: ws) ({ frames := 0, cells := 0, slots := 0, locals := 0 } : Room)) (fun a U => a = #[(.ref a1)] ∧ Z.Warmed39 U.vm ∧ U.heap = h0) (fun _ _ _ _ _ => True) (fun _ U o U' => ∃ v L, o = .returned v ∧ (K_rm_chg r2 r3 Z h0 n0 a1) v U'.heap L ∧ FrameEnd U o U' L ({ frames := 0, cells := 0, slots := 0, locals := 0 } : Room).cells ({ frames := 0, cells := 0, slots := 0, locals := 0 } : Room).slots) := by
  refine own_body (plainFor_of_name pn_com_example_mayfly_mayfly_store_Store_Update) ?_
  intro p e s m below meth c s₁ hx hby hml hown hnm hret hlk hZ X0 e0
  have hown : s.vm.findClass "com/example/mayfly/mayfly/store/Store$Update" = some m.cls := hown
  have N0 := Fr.nil n0
  rw [ef_rm_chg m a1 ]
  refine own_aloadN X0 hx (pc' := 1) rfl (hb hby d_prog_31_method_2_code_0) rfl rfl ?_
  refine own_getF X0 hx hZ hown (host := "") (Or.inl (hw _ (List.mem_of_getElem? (i := 41) rfl))) Via.refl e0 I2 (pc' := 4) rfl (hb hby d_prog_31_method_2_code_1) ?_
  intro T1 X1 e1
  refine own_aloadN X1 hx (pc' := 5) rfl (hb hby d_prog_31_method_2_code_4) rfl rfl ?_
  refine own_getF X1 hx hZ hown (host := "") (Or.inl (hw _ (List.mem_of_getElem? (i := 39) rfl))) Via.refl e1 I1 (pc' := 8) rfl (hb hby d_prog_31_method_2_code_5) ?_
  intro T2 X2 e2
  by_cases c8_3 : r3 = r2
  · refine own_acmpT X2 hx (pc' := 15) (hb hby d_prog_31_method_2_code_8) hr_r3 hr_r2 (XT.aa_eq_t c8_3) (by decide) (by decide) ?_
    refine own_iconst X2 hx (v := (0 : Int32)) (pc' := 16) rfl (hb hby d_prog_31_method_2_code_15) rfl ?_
    refine own_zret X2 hx hlk hret (by simp) (hb hby d_prog_31_method_2_code_16) (by decide) (by decide) ?_
    rw [e2]
    exact ⟨by first | (simp only [own_chg, if_pos c8_3]; done) | (simp only [own_chg, if_pos c8_3]; rfl), N0, rfl⟩
  · refine own_acmpF X2 hx (pc' := 11) rfl (hb hby d_prog_31_method_2_code_8) hr_r3 hr_r2 (XT.aa_eq_f c8_3) ?_
    refine own_iconst X2 hx (v := (1 : Int32)) (pc' := 12) rfl (hb hby d_prog_31_method_2_code_11) rfl ?_
    refine own_goto X2 hx (pc' := 16) (hb hby d_prog_31_method_2_code_12) (by decide) (by decide) ?_
    refine own_zret X2 hx hlk hret (by simp) (hb hby d_prog_31_method_2_code_16) (by decide) (by decide) ?_
    rw [e2]
    exact ⟨by first | (simp only [own_chg, if_neg c8_3]; done) | (simp only [own_chg, if_neg c8_3]; rfl), N0, rfl⟩
theorem own_and3 (x : Int32) : (x &&& (3 : Int32)) = 0 ∨ (x &&& (3 : Int32)) = 1 ∨ (x &&& (3 : Int32)) = 2 ∨ (x &&& (3 : Int32)) = 3 := by
  have e1 : (x &&& 3).toInt = x.toInt % 2 ^ 2 := Jvm.Kit.i32_mask x 3 (k := 2) (by decide) (by decide)
  have k : ∀ n : Int32, (x &&& 3).toInt = n.toInt → (x &&& 3) = n := fun n h => Int32.toInt_inj.mp h
  have h : (x &&& 3).toInt = 0 ∨ (x &&& 3).toInt = 1 ∨ (x &&& 3).toInt = 2 ∨ (x &&& 3).toInt = 3 := by omega
  rcases h with h | h | h | h
  · exact Or.inl (k 0 h)
  · exact Or.inr (Or.inl (k 1 h))
  · exact Or.inr (Or.inr (Or.inl (k 2 h)))
  · exact Or.inr (Or.inr (Or.inr (k 3 h)))
theorem own_iff {sa sb : Int32} {x y : Addr} (ha : sa = 0 ∨ sa = 1 ∨ sa = 2 ∨ sa = 3) (hb : sb = 0 ∨ sb = 1 ∨ sb = 2 ∨ sb = 3) (ne : x ≠ y) : own_pick sb x y = own_pick sa x y ↔ own_id sa = own_id sb := by
  have ne' : y ≠ x := fun q => ne q.symm
  rcases ha with rfl | rfl | rfl | rfl <;> rcases hb with rfl | rfl | rfl | rfl <;> simp [own_pick, own_id, ne, ne'] <;> decide
theorem own_end0 {sa sb : Int32} {x y : Addr} (ha : sa = 0 ∨ sa = 1 ∨ sa = 2 ∨ sa = 3) (hb : sb = 0 ∨ sb = 1 ∨ sb = 2 ∨ sb = 3) (ne : x ≠ y) (h : own_id sa = own_id sb) : own_chg (own_pick sb x y) (own_pick sa x y) = (0 : Int32) := by
  unfold own_chg; rw [if_pos ((own_iff ha hb ne).mpr h)]
theorem own_end1 {sa sb : Int32} {x y : Addr} (ha : sa = 0 ∨ sa = 1 ∨ sa = 2 ∨ sa = 3) (hb : sb = 0 ∨ sb = 1 ∨ sb = 2 ∨ sb = 3) (ne : x ≠ y) (h : ¬ own_id sa = own_id sb) : own_chg (own_pick sb x y) (own_pick sa x y) = (1 : Int32) := by
  unfold own_chg; rw [if_neg (fun q => h ((own_iff ha hb ne).mp q))]
theorem ef_rm_law (m : MethodId) (p1 : Int32) (p2 : Int32) (p3 : Int32) (q4 : Int64) (p5 : Int32) : entryFrame m #[(.int p1), (.int p2), (.int p3), (.long q4), (.int p5)] maxLocals = mkF m 0 #[.val (.int p1), .val (.int p2), .val (.int p3), .val (.long q4), .second, .val (.int p5), .unset, .unset, .unset, .unset, .unset, .unset, .unset, .unset, .unset, .unset] [] := by first | (simp [entryFrame, mkF, argsToLocals, Value.category, maxLocals]; done) | rfl
def K_rm_law  (Z : State) (h0 : Heap) (n0 : Nat) (p1 : Int32) (p2 : Int32) (p3 : Int32) (q4 : Int64) (p5 : Int32) (v : Option Value) (h : Heap) (L : List Loc) : Prop := v = some (.int 1) ∧ Fr n0 L
theorem pd___BIJ_V : parseMethodDescriptor "([BIJ)V" = some ⟨[(.array .byte), .int, .long], none⟩ := by decide +kernel
theorem pd__ILcom_example_mayfly_mayfly_store_Item_Lcom_example_mayfly_mayfly_store_Item__Lcom_example_mayfly_mayfly_store_Item_ : parseMethodDescriptor "(ILcom/example/mayfly/mayfly/store/Item;Lcom/example/mayfly/mayfly/store/Item;)Lcom/example/mayfly/mayfly/store/Item;" = some ⟨[.int, (.object "com/example/mayfly/mayfly/store/Item"), (.object "com/example/mayfly/mayfly/store/Item")], some (.object "com/example/mayfly/mayfly/store/Item")⟩ := by decide +kernel
theorem pd__Lcom_example_mayfly_mayfly_store_Item_Lcom_example_mayfly_mayfly_store_Item_Z_V : parseMethodDescriptor "(Lcom/example/mayfly/mayfly/store/Item;Lcom/example/mayfly/mayfly/store/Item;Z)V" = some ⟨[(.object "com/example/mayfly/mayfly/store/Item"), (.object "com/example/mayfly/mayfly/store/Item"), .boolean], none⟩ := by decide +kernel
theorem pd__I_I : parseMethodDescriptor "(I)I" = some ⟨[.int], some .int⟩ := by decide +kernel
theorem pd___Z : parseMethodDescriptor "()Z" = some ⟨[], some .boolean⟩ := by decide +kernel
set_option maxRecDepth 65536 in
set_option maxHeartbeats 40000000 in
theorem rm_law (l : Launch) (Z : State) (a0 : Array Value) (hw : ∀ d ∈ tables_1, d.before a0 Z = true) (ws : List Jvm.Cond)  (p1 : Int32) (p2 : Int32) (p3 : Int32) (q4 : Int64) (p5 : Int32) (h0 : Heap) (n0 : Nat) (Z0 : n0 ≤ h0.size) :
    MetFree l x (head1 (Jvm.Cond.code x code maxLocals ret :: ws) room_1) (fun a U => a = #[(.int p1), (.int p2), (.int p3), (.long q4), (.int p5)] ∧ Z.Warmed39 U.vm ∧ U.heap = h0) (fun _ _ _ _ _ => True) (fun _ U o U' => ∃ v L, o = .returned v ∧ (K_rm_law  Z h0 n0 p1 p2 p3 q4 p5) v U'.heap L ∧ FrameEnd U o U' L room_1.cells room_1.slots) := by
  refine own_body (plainFor_of_name pn_com_example_mayfly_mayfly_store_UpdateChangedPinLaw) ?_
  intro p e s m below meth c s₁ hx hby hml hown hnm hret hlk hZ X0 e0
  have hown : s.vm.findClass "com/example/mayfly/mayfly/store/UpdateChangedPinLaw" = some m.cls := hown
  have N0 := Fr.nil n0
  rw [ef_rm_law m p1 p2 p3 q4 p5]
  refine own_iconst X0 hx (v := (1 : Int32)) (pc' := 1) rfl (hb hby at_0) rfl ?_
  refine own_newarr X0 hx hZ (aty := .byte) (hw _ (List.mem_of_getElem? (i := 0) rfl)) e0 (pc' := 3) rfl (hb hby at_1) (by decide) (N := 1) (by decide) (cap := 1) (by decide) (by decide) (by decide) (by decide) ?_
  intro T1 h1 X1 e1 E1 A1
  obtain ⟨o1, g1⟩ : ∃ z, z = h0.size := ⟨_, rfl⟩
  rw [← g1] at A1 ⊢
  have ge1 : n0 ≤ o1 := g1 ▸ Z0
  have S2 := Nat.le_trans Z0 E1.1
  refine own_dup X1 hx (pc' := 4) rfl (hb hby at_3) rfl ?_
  refine own_iconst X1 hx (v := (0 : Int32)) (pc' := 5) rfl (hb hby at_4) rfl ?_
  refine own_iloadN X1 hx (pc' := 6) rfl (hb hby at_5) rfl ?_
  refine own_i2b X1 hx (v := ((p1).toInt8.toInt32)) (pc' := 7) rfl (hb hby at_6) rfl ?_
  refine own_stB X1 hx hZ e1 A1 (k := 0) (by decide) (by decide) (by decide) rfl (pc' := 8) rfl (hb hby at_7) ?_
  intro T3 h3 X3 e3 W3 A3
  have S4 := own_sizWr W3 S2
  have N3 := Fr.snoc X3 N0 ge1
  refine own_astore X3 hx (Ls' := #[.val (.int p1), .val (.int p2), .val (.int p3), .val (.long q4), .second, .val (.int p5), .val (.ref o1), .unset, .unset, .unset, .unset, .unset, .unset, .unset, .unset, .unset]) (pc' := 10) rfl (hb hby at_8) rfl rfl ?_
  refine own_new X3 hx hZ hown (hw _ (List.mem_of_getElem? (i := 1) rfl)) (hw _ (List.mem_of_getElem? (i := 2) rfl)) (hw _ (List.mem_of_getElem? (i := 3) rfl)) e3 (pc' := 13) rfl (hb hby at_10) (by decide) (by decide) ?_
  intro T6 h6 X6 e6 E6 A6 D6
  obtain ⟨o6, g6⟩ : ∃ z, z = h3.size := ⟨_, rfl⟩
  rw [← g6] at A6 D6 ⊢
  have ne6_o1 : o1 ≠ o6 := Nat.ne_of_lt (g6 ▸ (own_Arr.lt A3))
  have ge6 : n0 ≤ o6 := g6 ▸ S4
  have S7 := Nat.le_trans S4 E6.1
  have A8 := own_Arr.ext E6 A3
  have F9 : Fld Z h6 o6 "com/example/mayfly/mayfly/store/Item" "value" "[B" .null := D6 (Or.inr (hw _ (List.mem_of_getElem? (i := 14) rfl))) (ty := (.array .byte)) (by decide)
  have F10 : Fld Z h6 o6 "com/example/mayfly/mayfly/store/Item" "flags" "I" (.int (0 : Int32)) := D6 (Or.inr (hw _ (List.mem_of_getElem? (i := 16) rfl))) (ty := .int) (by decide)
  have F11 : Fld Z h6 o6 "com/example/mayfly/mayfly/store/Item" "deadline" "J" (.long (0 : Int64)) := D6 (Or.inr (hw _ (List.mem_of_getElem? (i := 18) rfl))) (ty := .long) (by decide)
  have F12 : Fld Z h6 o6 "com/example/mayfly/mayfly/store/Item" "cas" "J" (.long (0 : Int64)) := D6 (Or.inr (hw _ (List.mem_of_getElem? (i := 20) rfl))) (ty := .long) (by decide)
  have F13 : Fld Z h6 o6 "com/example/mayfly/mayfly/store/Item" "read" "Z" (.int (0 : Int32)) := D6 (Or.inl (hw _ (List.mem_of_getElem? (i := 22) rfl))) (ty := .boolean) (by decide)
  refine own_dup X6 hx (pc' := 14) rfl (hb hby at_13) rfl ?_
  refine own_aload X6 hx (pc' := 16) rfl (hb hby at_14) rfl rfl ?_
  refine own_iloadN X6 hx (pc' := 17) rfl (hb hby at_16) rfl ?_
  refine own_lloadN X6 hx (pc' := 18) rfl (hb hby at_17) rfl ?_
  refine own_callC X6 hx hZ (y := (⟨"com/example/mayfly/mayfly/store/Item", "<init>", "([BIJ)V"⟩ : MethodName)) rfl hown (hw _ (List.mem_of_getElem? (i := 4) rfl)) (hw _ (List.mem_of_getElem? (i := 5) rfl)) (hw _ (List.mem_of_getElem? (i := 3) rfl)) (hw _ (List.mem_of_getElem? (i := 6) rfl))  (by decide) (rm_item3 l Z a0 hw [] o6 o1 p3 q4 h6 n0 S7 A6 F9 F10 F11 F12 F13 ge6) (by decide) (W := 1) (by decide) (by decide) (by decide) e6 (by rw [hml]; rfl) (argsL := [(.ref o1), (.int p3), (.long q4)]) (rest := [(.ref o6)]) rfl (lenOf pd___BIJ_V rfl) rfl (Nat.le_of_eq rfl) (pc' := 21) rfl (hb hby at_18) ?_
  rintro _ T14 L14 X14 ⟨rfl, N14, K14, G14_0, G14_1, G14_2, G14_3, G14_4, G14_5⟩
  have M14 := Fr.app N3 N14
  obtain ⟨h14, e14⟩ : ∃ z, T14.heap = z := ⟨_, rfl⟩
  rw [e14] at K14 G14_0 G14_1 G14_2 G14_3 G14_4 G14_5
  have S15 := Nat.le_trans S7 K14.1
  have A16 := own_Arr.keep K14 A8 (ninS ne6_o1 nin0)
  have E17 := A6.keep K14
  show own_Goes p e below T14 (mkF m 21 #[.val (.int p1), .val (.int p2), .val (.int p3), .val (.long q4), .second, .val (.int p5), .val (.ref o1), .unset, .unset, .unset, .unset, .unset, .unset, .unset, .unset, .unset] [(.ref o6)]) (own_Ret s (K_rm_law  Z h0 n0 p1 p2 p3 q4 p5) room_1.cells room_1.slots)
  refine own_astore X14 hx (Ls' := #[.val (.int p1), .val (.int p2), .val (.int p3), .val (.long q4), .second, .val (.int p5), .val (.ref o1), .val (.ref o6), .unset, .unset, .unset, .unset, .unset, .unset, .unset, .unset]) (pc' := 23) rfl (hb hby at_21) rfl rfl ?_
  refine own_new X14 hx hZ hown (hw _ (List.mem_of_getElem? (i := 1) rfl)) (hw _ (List.mem_of_getElem? (i := 2) rfl)) (hw _ (List.mem_of_getElem? (i := 3) rfl)) e14 (pc' := 26) rfl (hb hby at_23) (by decide) (by decide) ?_
  intro T23 h23 X23 e23 E23 A23 D23
  obtain ⟨o23, g23⟩ : ∃ z, z = h14.size := ⟨_, rfl⟩
  rw [← g23] at A23 D23 ⊢
  have ne23_o1 : o1 ≠ o23 := Nat.ne_of_lt (g23 ▸ (own_Arr.lt A16))
  have ne23_o6 : o6 ≠ o23 := Nat.ne_of_lt (g23 ▸ E17.lt)
  have ge23 : n0 ≤ o23 := g23 ▸ S15
  have S24 := Nat.le_trans S15 E23.1
  have A25 := own_Arr.ext E23 A16
  have E26 := Exa.ext E23 E17
  have E27 := Exa.ext E23 G14_0
  have F28 := Fld.ext E23 G14_1
  have F29 := Fld.ext E23 G14_2
  have F30 := Fld.ext E23 G14_3
  have F31 := Fld.ext E23 G14_4
  have F32 := Fld.ext E23 G14_5
  have F33 : Fld Z h23 o23 "com/example/mayfly/mayfly/store/Item" "value" "[B" .null := D23 (Or.inr (hw _ (List.mem_of_getElem? (i := 14) rfl))) (ty := (.array .byte)) (by decide)
  have F34 : Fld Z h23 o23 "com/example/mayfly/mayfly/store/Item" "flags" "I" (.int (0 : Int32)) := D23 (Or.inr (hw _ (List.mem_of_getElem? (i := 16) rfl))) (ty := .int) (by decide)
  have F35 : Fld Z h23 o23 "com/example/mayfly/mayfly/store/Item" "deadline" "J" (.long (0 : Int64)) := D23 (Or.inr (hw _ (List.mem_of_getElem? (i := 18) rfl))) (ty := .long) (by decide)
  have F36 : Fld Z h23 o23 "com/example/mayfly/mayfly/store/Item" "cas" "J" (.long (0 : Int64)) := D23 (Or.inr (hw _ (List.mem_of_getElem? (i := 20) rfl))) (ty := .long) (by decide)
  have F37 : Fld Z h23 o23 "com/example/mayfly/mayfly/store/Item" "read" "Z" (.int (0 : Int32)) := D23 (Or.inl (hw _ (List.mem_of_getElem? (i := 22) rfl))) (ty := .boolean) (by decide)
  refine own_dup X23 hx (pc' := 27) rfl (hb hby at_26) rfl ?_
  refine own_aload X23 hx (pc' := 29) rfl (hb hby at_27) rfl rfl ?_
  refine own_iloadN X23 hx (pc' := 30) rfl (hb hby at_29) rfl ?_
  refine own_lloadN X23 hx (pc' := 31) rfl (hb hby at_30) rfl ?_
  refine own_callC X23 hx hZ (y := (⟨"com/example/mayfly/mayfly/store/Item", "<init>", "([BIJ)V"⟩ : MethodName)) rfl hown (hw _ (List.mem_of_getElem? (i := 4) rfl)) (hw _ (List.mem_of_getElem? (i := 5) rfl)) (hw _ (List.mem_of_getElem? (i := 3) rfl)) (hw _ (List.mem_of_getElem? (i := 6) rfl))  (by decide) (rm_item3 l Z a0 hw [] o23 o1 p3 q4 h23 n0 S24 A23 F33 F34 F35 F36 F37 ge23) (by decide) (W := 1) (by decide) (by decide) (by decide) e23 (by rw [hml]; rfl) (argsL := [(.ref o1), (.int p3), (.long q4)]) (rest := [(.ref o23)]) rfl (lenOf pd___BIJ_V rfl) rfl (Nat.le_of_eq rfl) (pc' := 34) rfl (hb hby at_31) ?_
  rintro _ T38 L38 X38 ⟨rfl, N38, K38, G38_0, G38_1, G38_2, G38_3, G38_4, G38_5⟩
  have M38 := Fr.app M14 N38
  obtain ⟨h38, e38⟩ : ∃ z, T38.heap = z := ⟨_, rfl⟩
  rw [e38] at K38 G38_0 G38_1 G38_2 G38_3 G38_4 G38_5
  have S39 := Nat.le_trans S24 K38.1
  have A40 := own_Arr.keep K38 A25 (ninS ne23_o1 nin0)
  have E41 := E26.keep K38
  have E42 := E27.keep K38
  have F43 := F28.keep K38 (ninS ne23_o6 nin0)
  have F44 := F29.keep K38 (ninS ne23_o6 nin0)
  have F45 := F30.keep K38 (ninS ne23_o6 nin0)
  have F46 := F31.keep K38 (ninS ne23_o6 nin0)
  have F47 := F32.keep K38 (ninS ne23_o6 nin0)
  have E48 := A23.keep K38
  show own_Goes p e below T38 (mkF m 34 #[.val (.int p1), .val (.int p2), .val (.int p3), .val (.long q4), .second, .val (.int p5), .val (.ref o1), .val (.ref o6), .unset, .unset, .unset, .unset, .unset, .unset, .unset, .unset] [(.ref o23)]) (own_Ret s (K_rm_law  Z h0 n0 p1 p2 p3 q4 p5) room_1.cells room_1.slots)
  refine own_astore X38 hx (Ls' := #[.val (.int p1), .val (.int p2), .val (.int p3), .val (.long q4), .second, .val (.int p5), .val (.ref o1), .val (.ref o6), .val (.ref o23), .unset, .unset, .unset, .unset, .unset, .unset, .unset]) (pc' := 36) rfl (hb hby at_34) rfl rfl ?_
  refine own_iloadN X38 hx (pc' := 37) rfl (hb hby at_36) rfl ?_
  refine own_iconst X38 hx (v := (3 : Int32)) (pc' := 38) rfl (hb hby at_37) rfl ?_
  refine own_iand X38 hx (v := (p1 &&& (3 : Int32))) (pc' := 39) rfl (hb hby at_38) rfl ?_
  have hsa := own_and3 p1
  generalize (p1 &&& (3 : Int32)) = sa at hsa ⊢
  refine own_istore X38 hx (Ls' := #[.val (.int p1), .val (.int p2), .val (.int p3), .val (.long q4), .second, .val (.int p5), .val (.ref o1), .val (.ref o6), .val (.ref o23), .val (.int sa), .unset, .unset, .unset, .unset, .unset, .unset]) (pc' := 41) rfl (hb hby at_39) rfl ?_
  refine own_iloadN X38 hx (pc' := 42) rfl (hb hby at_41) rfl ?_
  refine own_iconst X38 hx (v := (3 : Int32)) (pc' := 43) rfl (hb hby at_42) rfl ?_
  refine own_iand X38 hx (v := (p2 &&& (3 : Int32))) (pc' := 44) rfl (hb hby at_43) rfl ?_
  have hsb := own_and3 p2
  generalize (p2 &&& (3 : Int32)) = sb at hsb ⊢
  refine own_istore X38 hx (Ls' := #[.val (.int p1), .val (.int p2), .val (.int p3), .val (.long q4), .second, .val (.int p5), .val (.ref o1), .val (.ref o6), .val (.ref o23), .val (.int sa), .val (.int sb), .unset, .unset, .unset, .unset, .unset]) (pc' := 46) rfl (hb hby at_44) rfl ?_
  refine own_iload X38 hx (pc' := 48) rfl (hb hby at_46) rfl ?_
  refine own_aload X38 hx (pc' := 50) rfl (hb hby at_48) rfl rfl ?_
  refine own_aload X38 hx (pc' := 52) rfl (hb hby at_50) rfl rfl ?_
  refine own_callS X38 hx hZ (y := (⟨"com/example/mayfly/mayfly/store/UpdateChangedPinLaw", "pick", "(ILcom/example/mayfly/mayfly/store/Item;Lcom/example/mayfly/mayfly/store/Item;)Lcom/example/mayfly/mayfly/store/Item;"⟩ : MethodName)) hown (hw _ (List.mem_of_getElem? (i := 23) rfl)) (hw _ (List.mem_of_getElem? (i := 24) rfl)) (hw _ (List.mem_of_getElem? (i := 25) rfl)) (hw _ (List.mem_of_getElem? (i := 26) rfl))  (by decide) (rm_pick l Z a0 hw [] sa o6 o23 h38 n0 S39) (by decide) (W := 0) (by decide) (by decide) (by decide) e38 (by rw [hml]; rfl) (argsL := [(.int sa), (.ref o6), (.ref o23)]) (rest := []) rfl (lenOf pd__ILcom_example_mayfly_mayfly_store_Item_Lcom_example_mayfly_mayfly_store_Item__Lcom_example_mayfly_mayfly_store_Item_ rfl) rfl (Nat.le_of_eq rfl) (pc' := 55) rfl (hb hby at_52) ?_
  rintro _ T54 L54 X54 ⟨rfl, N54, e54⟩
  have M54 := Fr.app M38 N54
  show own_Goes p e below T54 (mkF m 55 #[.val (.int p1), .val (.int p2), .val (.int p3), .val (.long q4), .second, .val (.int p5), .val (.ref o1), .val (.ref o6), .val (.ref o23), .val (.int sa), .val (.int sb), .unset, .unset, .unset, .unset, .unset] [(own_pick sa o6 o23)]) (own_Ret s (K_rm_law  Z h0 n0 p1 p2 p3 q4 p5) room_1.cells room_1.slots)
  refine own_astore X54 hx (Ls' := #[.val (.int p1), .val (.int p2), .val (.int p3), .val (.long q4), .second, .val (.int p5), .val (.ref o1), .val (.ref o6), .val (.ref o23), .val (.int sa), .val (.int sb), .val (own_pick sa o6 o23), .unset, .unset, .unset, .unset]) (pc' := 57) rfl (hb hby at_55) (own_pickR _ _ _) (XS.store1 (o := .unset) rfl (Or.inl rfl) (XT.cat1 (own_pickR _ _ _))) ?_
  refine own_iload X54 hx (pc' := 59) rfl (hb hby at_57) rfl ?_
  refine own_aload X54 hx (pc' := 61) rfl (hb hby at_59) rfl rfl ?_
  refine own_aload X54 hx (pc' := 63) rfl (hb hby at_61) rfl rfl ?_
  refine own_callS X54 hx hZ (y := (⟨"com/example/mayfly/mayfly/store/UpdateChangedPinLaw", "pick", "(ILcom/example/mayfly/mayfly/store/Item;Lcom/example/mayfly/mayfly/store/Item;)Lcom/example/mayfly/mayfly/store/Item;"⟩ : MethodName)) hown (hw _ (List.mem_of_getElem? (i := 23) rfl)) (hw _ (List.mem_of_getElem? (i := 24) rfl)) (hw _ (List.mem_of_getElem? (i := 25) rfl)) (hw _ (List.mem_of_getElem? (i := 26) rfl))  (by decide) (rm_pick l Z a0 hw [] sb o6 o23 h38 n0 S39) (by decide) (W := 0) (by decide) (by decide) (by decide) e54 (by rw [hml]; rfl) (argsL := [(.int sb), (.ref o6), (.ref o23)]) (rest := []) rfl (lenOf pd__ILcom_example_mayfly_mayfly_store_Item_Lcom_example_mayfly_mayfly_store_Item__Lcom_example_mayfly_mayfly_store_Item_ rfl) rfl (Nat.le_of_eq rfl) (pc' := 66) rfl (hb hby at_63) ?_
  rintro _ T55 L55 X55 ⟨rfl, N55, e55⟩
  have M55 := Fr.app M54 N55
  show own_Goes p e below T55 (mkF m 66 #[.val (.int p1), .val (.int p2), .val (.int p3), .val (.long q4), .second, .val (.int p5), .val (.ref o1), .val (.ref o6), .val (.ref o23), .val (.int sa), .val (.int sb), .val (own_pick sa o6 o23), .unset, .unset, .unset, .unset] [(own_pick sb o6 o23)]) (own_Ret s (K_rm_law  Z h0 n0 p1 p2 p3 q4 p5) room_1.cells room_1.slots)
  refine own_astore X55 hx (Ls' := #[.val (.int p1), .val (.int p2), .val (.int p3), .val (.long q4), .second, .val (.int p5), .val (.ref o1), .val (.ref o6), .val (.ref o23), .val (.int sa), .val (.int sb), .val (own_pick sa o6 o23), .val (own_pick sb o6 o23), .unset, .unset, .unset]) (pc' := 68) rfl (hb hby at_66) (own_pickR _ _ _) (XS.store1 (o := .unset) rfl (Or.inl rfl) (XT.cat1 (own_pickR _ _ _))) ?_
  refine own_iload X55 hx (pc' := 70) rfl (hb hby at_68) rfl ?_
  refine own_iconst X55 hx (v := (1 : Int32)) (pc' := 71) rfl (hb hby at_70) rfl ?_
  refine own_iand X55 hx (v := (p5 &&& (1 : Int32))) (pc' := 72) rfl (hb hby at_71) rfl ?_
  by_cases c72_56 : (p5 &&& (1 : Int32)) = 0
  · refine own_ifT X55 hx (pc' := 79) (hb hby at_72) (XT.i0_eq_t c72_56) (by decide) (by decide) ?_
    refine own_iconst X55 hx (v := (0 : Int32)) (pc' := 80) rfl (hb hby at_79) rfl ?_
    refine own_istore X55 hx (Ls' := #[.val (.int p1), .val (.int p2), .val (.int p3), .val (.long q4), .second, .val (.int p5), .val (.ref o1), .val (.ref o6), .val (.ref o23), .val (.int sa), .val (.int sb), .val (own_pick sa o6 o23), .val (own_pick sb o6 o23), .val (.int (0 : Int32)), .unset, .unset]) (pc' := 82) rfl (hb hby at_80) rfl ?_
    refine own_new X55 hx hZ hown (hw _ (List.mem_of_getElem? (i := 27) rfl)) (hw _ (List.mem_of_getElem? (i := 28) rfl)) (hw _ (List.mem_of_getElem? (i := 29) rfl)) e55 (pc' := 85) rfl (hb hby at_82) (by decide) (by decide) ?_
    intro T57 h57 X57 e57 E57 A57 D57
    obtain ⟨o57, g57⟩ : ∃ z, z = h38.size := ⟨_, rfl⟩
    rw [← g57] at A57 D57 ⊢
    have ne57_o1 : o1 ≠ o57 := Nat.ne_of_lt (g57 ▸ (own_Arr.lt A40))
    have ne57_o6 : o6 ≠ o57 := Nat.ne_of_lt (g57 ▸ E41.lt)
    have ne57_o23 : o23 ≠ o57 := Nat.ne_of_lt (g57 ▸ E48.lt)
    have ge57 : n0 ≤ o57 := g57 ▸ S39
    have S58 := Nat.le_trans S39 E57.1
    have A59 := own_Arr.ext E57 A40
    have E60 := Exa.ext E57 E41
    have E61 := Exa.ext E57 E42
    have F62 := Fld.ext E57 F43
    have F63 := Fld.ext E57 F44
    have F64 := Fld.ext E57 F45
    have F65 := Fld.ext E57 F46
    have F66 := Fld.ext E57 F47
    have E67 := Exa.ext E57 E48
    have E68 := Exa.ext E57 G38_0
    have F69 := Fld.ext E57 G38_1
    have F70 := Fld.ext E57 G38_2
    have F71 := Fld.ext E57 G38_3
    have F72 := Fld.ext E57 G38_4
    have F73 := Fld.ext E57 G38_5
    have F74 : Fld Z h57 o57 "com/example/mayfly/mayfly/store/Store$Update" "before" "Lcom/example/mayfly/mayfly/store/Item;" .null := D57 (Or.inr (hw _ (List.mem_of_getElem? (i := 40) rfl))) (ty := (.object "com/example/mayfly/mayfly/store/Item")) (by decide)
    have F75 : Fld Z h57 o57 "com/example/mayfly/mayfly/store/Store$Update" "after" "Lcom/example/mayfly/mayfly/store/Item;" .null := D57 (Or.inr (hw _ (List.mem_of_getElem? (i := 42) rfl))) (ty := (.object "com/example/mayfly/mayfly/store/Item")) (by decide)
    have F76 : Fld Z h57 o57 "com/example/mayfly/mayfly/store/Store$Update" "expired" "Z" (.int (0 : Int32)) := D57 (Or.inr (hw _ (List.mem_of_getElem? (i := 44) rfl))) (ty := .boolean) (by decide)
    refine own_dup X57 hx (pc' := 86) rfl (hb hby at_85) rfl ?_
    refine own_aload X57 hx (pc' := 88) rfl (hb hby at_86) rfl (own_pickR _ _ _) ?_
    refine own_aload X57 hx (pc' := 90) rfl (hb hby at_88) rfl (own_pickR _ _ _) ?_
    refine own_iload X57 hx (pc' := 92) rfl (hb hby at_90) rfl ?_
    refine own_callC X57 hx hZ (y := (⟨"com/example/mayfly/mayfly/store/Store$Update", "<init>", "(Lcom/example/mayfly/mayfly/store/Item;Lcom/example/mayfly/mayfly/store/Item;Z)V"⟩ : MethodName)) rfl hown (hw _ (List.mem_of_getElem? (i := 30) rfl)) (hw _ (List.mem_of_getElem? (i := 31) rfl)) (hw _ (List.mem_of_getElem? (i := 29) rfl)) (hw _ (List.mem_of_getElem? (i := 32) rfl))  (by decide) (rm_upd l Z a0 hw [] o57 (own_pick sa o6 o23) (own_pick sb o6 o23) (0 : Int32) h57 n0 S58 A57 F74 F75 F76 ge57 (own_pickR _ _ _) (own_pickR _ _ _) (by decide)) (by decide) (W := 1) (by decide) (by decide) (by decide) e57 (by rw [hml]; rfl) (argsL := [(own_pick sa o6 o23), (own_pick sb o6 o23), (.int (0 : Int32))]) (rest := [(.ref o57)]) rfl (lenOf pd__Lcom_example_mayfly_mayfly_store_Item_Lcom_example_mayfly_mayfly_store_Item_Z_V rfl) rfl (Nat.le_of_eq rfl) (pc' := 95) rfl (hb hby at_92) ?_
    rintro _ T77 L77 X77 ⟨rfl, N77, K77, G77_0, G77_1, G77_2⟩
    have M77 := Fr.app M55 N77
    obtain ⟨h77, e77⟩ : ∃ z, T77.heap = z := ⟨_, rfl⟩
    rw [e77] at K77 G77_0 G77_1 G77_2
    have S78 := Nat.le_trans S58 K77.1
    have A79 := own_Arr.keep K77 A59 (ninS ne57_o1 nin0)
    have E80 := E60.keep K77
    have E81 := E61.keep K77
    have F82 := F62.keep K77 (ninS ne57_o6 nin0)
    have F83 := F63.keep K77 (ninS ne57_o6 nin0)
    have F84 := F64.keep K77 (ninS ne57_o6 nin0)
    have F85 := F65.keep K77 (ninS ne57_o6 nin0)
    have F86 := F66.keep K77 (ninS ne57_o6 nin0)
    have E87 := E67.keep K77
    have E88 := E68.keep K77
    have F89 := F69.keep K77 (ninS ne57_o23 nin0)
    have F90 := F70.keep K77 (ninS ne57_o23 nin0)
    have F91 := F71.keep K77 (ninS ne57_o23 nin0)
    have F92 := F72.keep K77 (ninS ne57_o23 nin0)
    have F93 := F73.keep K77 (ninS ne57_o23 nin0)
    have E94 := A57.keep K77
    show own_Goes p e below T77 (mkF m 95 #[.val (.int p1), .val (.int p2), .val (.int p3), .val (.long q4), .second, .val (.int p5), .val (.ref o1), .val (.ref o6), .val (.ref o23), .val (.int sa), .val (.int sb), .val (own_pick sa o6 o23), .val (own_pick sb o6 o23), .val (.int (0 : Int32)), .unset, .unset] [(.ref o57)]) (own_Ret s (K_rm_law  Z h0 n0 p1 p2 p3 q4 p5) room_1.cells room_1.slots)
    refine own_astore X77 hx (Ls' := #[.val (.int p1), .val (.int p2), .val (.int p3), .val (.long q4), .second, .val (.int p5), .val (.ref o1), .val (.ref o6), .val (.ref o23), .val (.int sa), .val (.int sb), .val (own_pick sa o6 o23), .val (own_pick sb o6 o23), .val (.int (0 : Int32)), .val (.ref o57), .unset]) (pc' := 97) rfl (hb hby at_95) rfl rfl ?_
    refine own_iload X77 hx (pc' := 99) rfl (hb hby at_97) rfl ?_
    refine own_callS X77 hx hZ (y := (⟨"com/example/mayfly/mayfly/store/UpdateChangedPinLaw", "ident", "(I)I"⟩ : MethodName)) hown (hw _ (List.mem_of_getElem? (i := 45) rfl)) (hw _ (List.mem_of_getElem? (i := 46) rfl)) (hw _ (List.mem_of_getElem? (i := 25) rfl)) (hw _ (List.mem_of_getElem? (i := 47) rfl))  (by decide) (rm_id l Z a0 hw [] sa h77 n0 S78) (by decide) (W := 0) (by decide) (by decide) (by decide) e77 (by rw [hml]; rfl) (argsL := [(.int sa)]) (rest := []) rfl (lenOf pd__I_I rfl) rfl (Nat.le_of_eq rfl) (pc' := 102) rfl (hb hby at_99) ?_
    rintro _ T98 L98 X98 ⟨rfl, N98, e98⟩
    have M98 := Fr.app M77 N98
    show own_Goes p e below T98 (mkF m 102 #[.val (.int p1), .val (.int p2), .val (.int p3), .val (.long q4), .second, .val (.int p5), .val (.ref o1), .val (.ref o6), .val (.ref o23), .val (.int sa), .val (.int sb), .val (own_pick sa o6 o23), .val (own_pick sb o6 o23), .val (.int (0 : Int32)), .val (.ref o57), .unset] [(.int (own_id sa))]) (own_Ret s (K_rm_law  Z h0 n0 p1 p2 p3 q4 p5) room_1.cells room_1.slots)
    refine own_iload X98 hx (pc' := 104) rfl (hb hby at_102) rfl ?_
    refine own_callS X98 hx hZ (y := (⟨"com/example/mayfly/mayfly/store/UpdateChangedPinLaw", "ident", "(I)I"⟩ : MethodName)) hown (hw _ (List.mem_of_getElem? (i := 45) rfl)) (hw _ (List.mem_of_getElem? (i := 46) rfl)) (hw _ (List.mem_of_getElem? (i := 25) rfl)) (hw _ (List.mem_of_getElem? (i := 47) rfl))  (by decide) (rm_id l Z a0 hw [] sb h77 n0 S78) (by decide) (W := 1) (by decide) (by decide) (by decide) e98 (by rw [hml]; rfl) (argsL := [(.int sb)]) (rest := [(.int (own_id sa))]) rfl (lenOf pd__I_I rfl) rfl (Nat.le_of_eq rfl) (pc' := 107) rfl (hb hby at_104) ?_
    rintro _ T99 L99 X99 ⟨rfl, N99, e99⟩
    have M99 := Fr.app M98 N99
    show own_Goes p e below T99 (mkF m 107 #[.val (.int p1), .val (.int p2), .val (.int p3), .val (.long q4), .second, .val (.int p5), .val (.ref o1), .val (.ref o6), .val (.ref o23), .val (.int sa), .val (.int sb), .val (own_pick sa o6 o23), .val (own_pick sb o6 o23), .val (.int (0 : Int32)), .val (.ref o57), .unset] [(.int (own_id sb)), (.int (own_id sa))]) (own_Ret s (K_rm_law  Z h0 n0 p1 p2 p3 q4 p5) room_1.cells room_1.slots)
    by_cases c107_100 : (own_id sa) = (own_id sb)
    · refine own_icmpT X99 hx (pc' := 114) (hb hby at_107) (XT.ii_eq_t c107_100) (by decide) (by decide) ?_
      refine own_iconst X99 hx (v := (0 : Int32)) (pc' := 115) rfl (hb hby at_114) rfl ?_
      refine own_istore X99 hx (Ls' := #[.val (.int p1), .val (.int p2), .val (.int p3), .val (.long q4), .second, .val (.int p5), .val (.ref o1), .val (.ref o6), .val (.ref o23), .val (.int sa), .val (.int sb), .val (own_pick sa o6 o23), .val (own_pick sb o6 o23), .val (.int (0 : Int32)), .val (.ref o57), .val (.int (0 : Int32))]) (pc' := 117) rfl (hb hby at_115) rfl ?_
      refine own_aload X99 hx (pc' := 119) rfl (hb hby at_117) rfl rfl ?_
      refine own_callV X99 hx hZ (y := (⟨"com/example/mayfly/mayfly/store/Store$Update", "changed", "()Z"⟩ : MethodName)) hown (hw _ (List.mem_of_getElem? (i := 48) rfl)) (hw _ (List.mem_of_getElem? (i := 49) rfl)) (hw _ (List.mem_of_getElem? (i := 51) rfl)) (hw _ (List.mem_of_getElem? (i := 50) rfl)) (hw _ (List.mem_of_getElem? (i := 29) rfl)) (hw _ (List.mem_of_getElem? (i := 52) rfl)) E94  (by decide) (rm_chg l Z a0 hw [] (own_pick sa o6 o23) (own_pick sb o6 o23) o57 h77 n0 S78 E94 G77_1 G77_2 (own_pickR _ _ _) (own_pickR _ _ _)) (by decide) (W := 0) (by decide) (by decide) (by decide) e99 (by rw [hml]; rfl) (argsL := []) (rest := []) rfl (lenOf pd___Z rfl) rfl (Nat.le_of_eq rfl) (pc' := 122) rfl (hb hby at_119) ?_
      rintro _ T101 L101 X101 ⟨rfl, N101, e101⟩
      have M101 := Fr.app M99 N101
      show own_Goes p e below T101 (mkF m 122 #[.val (.int p1), .val (.int p2), .val (.int p3), .val (.long q4), .second, .val (.int p5), .val (.ref o1), .val (.ref o6), .val (.ref o23), .val (.int sa), .val (.int sb), .val (own_pick sa o6 o23), .val (own_pick sb o6 o23), .val (.int (0 : Int32)), .val (.ref o57), .val (.int (0 : Int32))] [(.int (own_chg (own_pick sb o6 o23) (own_pick sa o6 o23)))]) (own_Ret s (K_rm_law  Z h0 n0 p1 p2 p3 q4 p5) room_1.cells room_1.slots)
      refine own_iload X101 hx (pc' := 124) rfl (hb hby at_122) rfl ?_
      refine own_icmpF X101 hx (pc' := 127) rfl (hb hby at_124) (XT.ii_ne_f (own_end0 hsa hsb ne23_o6 c107_100)) ?_
      refine own_iconst X101 hx (v := (1 : Int32)) (pc' := 128) rfl (hb hby at_127) rfl ?_
      refine own_goto X101 hx (pc' := 132) (hb hby at_128) (by decide) (by decide) ?_
      refine own_zret X101 hx hlk hret (by simp) (hb hby at_132) (by decide) (by decide) ?_
      rw [e101]
      exact ⟨rfl, M101⟩
    · refine own_icmpF X99 hx (pc' := 110) rfl (hb hby at_107) (XT.ii_eq_f c107_100) ?_
      refine own_iconst X99 hx (v := (1 : Int32)) (pc' := 111) rfl (hb hby at_110) rfl ?_
      refine own_goto X99 hx (pc' := 115) (hb hby at_111) (by decide) (by decide) ?_
      refine own_istore X99 hx (Ls' := #[.val (.int p1), .val (.int p2), .val (.int p3), .val (.long q4), .second, .val (.int p5), .val (.ref o1), .val (.ref o6), .val (.ref o23), .val (.int sa), .val (.int sb), .val (own_pick sa o6 o23), .val (own_pick sb o6 o23), .val (.int (0 : Int32)), .val (.ref o57), .val (.int (1 : Int32))]) (pc' := 117) rfl (hb hby at_115) rfl ?_
      refine own_aload X99 hx (pc' := 119) rfl (hb hby at_117) rfl rfl ?_
      refine own_callV X99 hx hZ (y := (⟨"com/example/mayfly/mayfly/store/Store$Update", "changed", "()Z"⟩ : MethodName)) hown (hw _ (List.mem_of_getElem? (i := 48) rfl)) (hw _ (List.mem_of_getElem? (i := 49) rfl)) (hw _ (List.mem_of_getElem? (i := 51) rfl)) (hw _ (List.mem_of_getElem? (i := 50) rfl)) (hw _ (List.mem_of_getElem? (i := 29) rfl)) (hw _ (List.mem_of_getElem? (i := 52) rfl)) E94  (by decide) (rm_chg l Z a0 hw [] (own_pick sa o6 o23) (own_pick sb o6 o23) o57 h77 n0 S78 E94 G77_1 G77_2 (own_pickR _ _ _) (own_pickR _ _ _)) (by decide) (W := 0) (by decide) (by decide) (by decide) e99 (by rw [hml]; rfl) (argsL := []) (rest := []) rfl (lenOf pd___Z rfl) rfl (Nat.le_of_eq rfl) (pc' := 122) rfl (hb hby at_119) ?_
      rintro _ T102 L102 X102 ⟨rfl, N102, e102⟩
      have M102 := Fr.app M99 N102
      show own_Goes p e below T102 (mkF m 122 #[.val (.int p1), .val (.int p2), .val (.int p3), .val (.long q4), .second, .val (.int p5), .val (.ref o1), .val (.ref o6), .val (.ref o23), .val (.int sa), .val (.int sb), .val (own_pick sa o6 o23), .val (own_pick sb o6 o23), .val (.int (0 : Int32)), .val (.ref o57), .val (.int (1 : Int32))] [(.int (own_chg (own_pick sb o6 o23) (own_pick sa o6 o23)))]) (own_Ret s (K_rm_law  Z h0 n0 p1 p2 p3 q4 p5) room_1.cells room_1.slots)
      refine own_iload X102 hx (pc' := 124) rfl (hb hby at_122) rfl ?_
      refine own_icmpF X102 hx (pc' := 127) rfl (hb hby at_124) (XT.ii_ne_f (own_end1 hsa hsb ne23_o6 c107_100)) ?_
      refine own_iconst X102 hx (v := (1 : Int32)) (pc' := 128) rfl (hb hby at_127) rfl ?_
      refine own_goto X102 hx (pc' := 132) (hb hby at_128) (by decide) (by decide) ?_
      refine own_zret X102 hx hlk hret (by simp) (hb hby at_132) (by decide) (by decide) ?_
      rw [e102]
      exact ⟨rfl, M102⟩
  · refine own_ifF X55 hx (pc' := 75) rfl (hb hby at_72) (XT.i0_eq_f c72_56) ?_
    refine own_iconst X55 hx (v := (1 : Int32)) (pc' := 76) rfl (hb hby at_75) rfl ?_
    refine own_goto X55 hx (pc' := 80) (hb hby at_76) (by decide) (by decide) ?_
    refine own_istore X55 hx (Ls' := #[.val (.int p1), .val (.int p2), .val (.int p3), .val (.long q4), .second, .val (.int p5), .val (.ref o1), .val (.ref o6), .val (.ref o23), .val (.int sa), .val (.int sb), .val (own_pick sa o6 o23), .val (own_pick sb o6 o23), .val (.int (1 : Int32)), .unset, .unset]) (pc' := 82) rfl (hb hby at_80) rfl ?_
    refine own_new X55 hx hZ hown (hw _ (List.mem_of_getElem? (i := 27) rfl)) (hw _ (List.mem_of_getElem? (i := 28) rfl)) (hw _ (List.mem_of_getElem? (i := 29) rfl)) e55 (pc' := 85) rfl (hb hby at_82) (by decide) (by decide) ?_
    intro T103 h103 X103 e103 E103 A103 D103
    obtain ⟨o103, g103⟩ : ∃ z, z = h38.size := ⟨_, rfl⟩
    rw [← g103] at A103 D103 ⊢
    have ne103_o1 : o1 ≠ o103 := Nat.ne_of_lt (g103 ▸ (own_Arr.lt A40))
    have ne103_o6 : o6 ≠ o103 := Nat.ne_of_lt (g103 ▸ E41.lt)
    have ne103_o23 : o23 ≠ o103 := Nat.ne_of_lt (g103 ▸ E48.lt)
    have ge103 : n0 ≤ o103 := g103 ▸ S39
    have S104 := Nat.le_trans S39 E103.1
    have A105 := own_Arr.ext E103 A40
    have E106 := Exa.ext E103 E41
    have E107 := Exa.ext E103 E42
    have F108 := Fld.ext E103 F43
    have F109 := Fld.ext E103 F44
    have F110 := Fld.ext E103 F45
    have F111 := Fld.ext E103 F46
    have F112 := Fld.ext E103 F47
    have E113 := Exa.ext E103 E48
    have E114 := Exa.ext E103 G38_0
    have F115 := Fld.ext E103 G38_1
    have F116 := Fld.ext E103 G38_2
    have F117 := Fld.ext E103 G38_3
    have F118 := Fld.ext E103 G38_4
    have F119 := Fld.ext E103 G38_5
    have F120 : Fld Z h103 o103 "com/example/mayfly/mayfly/store/Store$Update" "before" "Lcom/example/mayfly/mayfly/store/Item;" .null := D103 (Or.inr (hw _ (List.mem_of_getElem? (i := 40) rfl))) (ty := (.object "com/example/mayfly/mayfly/store/Item")) (by decide)
    have F121 : Fld Z h103 o103 "com/example/mayfly/mayfly/store/Store$Update" "after" "Lcom/example/mayfly/mayfly/store/Item;" .null := D103 (Or.inr (hw _ (List.mem_of_getElem? (i := 42) rfl))) (ty := (.object "com/example/mayfly/mayfly/store/Item")) (by decide)
    have F122 : Fld Z h103 o103 "com/example/mayfly/mayfly/store/Store$Update" "expired" "Z" (.int (0 : Int32)) := D103 (Or.inr (hw _ (List.mem_of_getElem? (i := 44) rfl))) (ty := .boolean) (by decide)
    refine own_dup X103 hx (pc' := 86) rfl (hb hby at_85) rfl ?_
    refine own_aload X103 hx (pc' := 88) rfl (hb hby at_86) rfl (own_pickR _ _ _) ?_
    refine own_aload X103 hx (pc' := 90) rfl (hb hby at_88) rfl (own_pickR _ _ _) ?_
    refine own_iload X103 hx (pc' := 92) rfl (hb hby at_90) rfl ?_
    refine own_callC X103 hx hZ (y := (⟨"com/example/mayfly/mayfly/store/Store$Update", "<init>", "(Lcom/example/mayfly/mayfly/store/Item;Lcom/example/mayfly/mayfly/store/Item;Z)V"⟩ : MethodName)) rfl hown (hw _ (List.mem_of_getElem? (i := 30) rfl)) (hw _ (List.mem_of_getElem? (i := 31) rfl)) (hw _ (List.mem_of_getElem? (i := 29) rfl)) (hw _ (List.mem_of_getElem? (i := 32) rfl))  (by decide) (rm_upd l Z a0 hw [] o103 (own_pick sa o6 o23) (own_pick sb o6 o23) (1 : Int32) h103 n0 S104 A103 F120 F121 F122 ge103 (own_pickR _ _ _) (own_pickR _ _ _) (by decide)) (by decide) (W := 1) (by decide) (by decide) (by decide) e103 (by rw [hml]; rfl) (argsL := [(own_pick sa o6 o23), (own_pick sb o6 o23), (.int (1 : Int32))]) (rest := [(.ref o103)]) rfl (lenOf pd__Lcom_example_mayfly_mayfly_store_Item_Lcom_example_mayfly_mayfly_store_Item_Z_V rfl) rfl (Nat.le_of_eq rfl) (pc' := 95) rfl (hb hby at_92) ?_
    rintro _ T123 L123 X123 ⟨rfl, N123, K123, G123_0, G123_1, G123_2⟩
    have M123 := Fr.app M55 N123
    obtain ⟨h123, e123⟩ : ∃ z, T123.heap = z := ⟨_, rfl⟩
    rw [e123] at K123 G123_0 G123_1 G123_2
    have S124 := Nat.le_trans S104 K123.1
    have A125 := own_Arr.keep K123 A105 (ninS ne103_o1 nin0)
    have E126 := E106.keep K123
    have E127 := E107.keep K123
    have F128 := F108.keep K123 (ninS ne103_o6 nin0)
    have F129 := F109.keep K123 (ninS ne103_o6 nin0)
    have F130 := F110.keep K123 (ninS ne103_o6 nin0)
    have F131 := F111.keep K123 (ninS ne103_o6 nin0)
    have F132 := F112.keep K123 (ninS ne103_o6 nin0)
    have E133 := E113.keep K123
    have E134 := E114.keep K123
    have F135 := F115.keep K123 (ninS ne103_o23 nin0)
    have F136 := F116.keep K123 (ninS ne103_o23 nin0)
    have F137 := F117.keep K123 (ninS ne103_o23 nin0)
    have F138 := F118.keep K123 (ninS ne103_o23 nin0)
    have F139 := F119.keep K123 (ninS ne103_o23 nin0)
    have E140 := A103.keep K123
    show own_Goes p e below T123 (mkF m 95 #[.val (.int p1), .val (.int p2), .val (.int p3), .val (.long q4), .second, .val (.int p5), .val (.ref o1), .val (.ref o6), .val (.ref o23), .val (.int sa), .val (.int sb), .val (own_pick sa o6 o23), .val (own_pick sb o6 o23), .val (.int (1 : Int32)), .unset, .unset] [(.ref o103)]) (own_Ret s (K_rm_law  Z h0 n0 p1 p2 p3 q4 p5) room_1.cells room_1.slots)
    refine own_astore X123 hx (Ls' := #[.val (.int p1), .val (.int p2), .val (.int p3), .val (.long q4), .second, .val (.int p5), .val (.ref o1), .val (.ref o6), .val (.ref o23), .val (.int sa), .val (.int sb), .val (own_pick sa o6 o23), .val (own_pick sb o6 o23), .val (.int (1 : Int32)), .val (.ref o103), .unset]) (pc' := 97) rfl (hb hby at_95) rfl rfl ?_
    refine own_iload X123 hx (pc' := 99) rfl (hb hby at_97) rfl ?_
    refine own_callS X123 hx hZ (y := (⟨"com/example/mayfly/mayfly/store/UpdateChangedPinLaw", "ident", "(I)I"⟩ : MethodName)) hown (hw _ (List.mem_of_getElem? (i := 45) rfl)) (hw _ (List.mem_of_getElem? (i := 46) rfl)) (hw _ (List.mem_of_getElem? (i := 25) rfl)) (hw _ (List.mem_of_getElem? (i := 47) rfl))  (by decide) (rm_id l Z a0 hw [] sa h123 n0 S124) (by decide) (W := 0) (by decide) (by decide) (by decide) e123 (by rw [hml]; rfl) (argsL := [(.int sa)]) (rest := []) rfl (lenOf pd__I_I rfl) rfl (Nat.le_of_eq rfl) (pc' := 102) rfl (hb hby at_99) ?_
    rintro _ T144 L144 X144 ⟨rfl, N144, e144⟩
    have M144 := Fr.app M123 N144
    show own_Goes p e below T144 (mkF m 102 #[.val (.int p1), .val (.int p2), .val (.int p3), .val (.long q4), .second, .val (.int p5), .val (.ref o1), .val (.ref o6), .val (.ref o23), .val (.int sa), .val (.int sb), .val (own_pick sa o6 o23), .val (own_pick sb o6 o23), .val (.int (1 : Int32)), .val (.ref o103), .unset] [(.int (own_id sa))]) (own_Ret s (K_rm_law  Z h0 n0 p1 p2 p3 q4 p5) room_1.cells room_1.slots)
    refine own_iload X144 hx (pc' := 104) rfl (hb hby at_102) rfl ?_
    refine own_callS X144 hx hZ (y := (⟨"com/example/mayfly/mayfly/store/UpdateChangedPinLaw", "ident", "(I)I"⟩ : MethodName)) hown (hw _ (List.mem_of_getElem? (i := 45) rfl)) (hw _ (List.mem_of_getElem? (i := 46) rfl)) (hw _ (List.mem_of_getElem? (i := 25) rfl)) (hw _ (List.mem_of_getElem? (i := 47) rfl))  (by decide) (rm_id l Z a0 hw [] sb h123 n0 S124) (by decide) (W := 1) (by decide) (by decide) (by decide) e144 (by rw [hml]; rfl) (argsL := [(.int sb)]) (rest := [(.int (own_id sa))]) rfl (lenOf pd__I_I rfl) rfl (Nat.le_of_eq rfl) (pc' := 107) rfl (hb hby at_104) ?_
    rintro _ T145 L145 X145 ⟨rfl, N145, e145⟩
    have M145 := Fr.app M144 N145
    show own_Goes p e below T145 (mkF m 107 #[.val (.int p1), .val (.int p2), .val (.int p3), .val (.long q4), .second, .val (.int p5), .val (.ref o1), .val (.ref o6), .val (.ref o23), .val (.int sa), .val (.int sb), .val (own_pick sa o6 o23), .val (own_pick sb o6 o23), .val (.int (1 : Int32)), .val (.ref o103), .unset] [(.int (own_id sb)), (.int (own_id sa))]) (own_Ret s (K_rm_law  Z h0 n0 p1 p2 p3 q4 p5) room_1.cells room_1.slots)
    by_cases c107_146 : (own_id sa) = (own_id sb)
    · refine own_icmpT X145 hx (pc' := 114) (hb hby at_107) (XT.ii_eq_t c107_146) (by decide) (by decide) ?_
      refine own_iconst X145 hx (v := (0 : Int32)) (pc' := 115) rfl (hb hby at_114) rfl ?_
      refine own_istore X145 hx (Ls' := #[.val (.int p1), .val (.int p2), .val (.int p3), .val (.long q4), .second, .val (.int p5), .val (.ref o1), .val (.ref o6), .val (.ref o23), .val (.int sa), .val (.int sb), .val (own_pick sa o6 o23), .val (own_pick sb o6 o23), .val (.int (1 : Int32)), .val (.ref o103), .val (.int (0 : Int32))]) (pc' := 117) rfl (hb hby at_115) rfl ?_
      refine own_aload X145 hx (pc' := 119) rfl (hb hby at_117) rfl rfl ?_
      refine own_callV X145 hx hZ (y := (⟨"com/example/mayfly/mayfly/store/Store$Update", "changed", "()Z"⟩ : MethodName)) hown (hw _ (List.mem_of_getElem? (i := 48) rfl)) (hw _ (List.mem_of_getElem? (i := 49) rfl)) (hw _ (List.mem_of_getElem? (i := 51) rfl)) (hw _ (List.mem_of_getElem? (i := 50) rfl)) (hw _ (List.mem_of_getElem? (i := 29) rfl)) (hw _ (List.mem_of_getElem? (i := 52) rfl)) E140  (by decide) (rm_chg l Z a0 hw [] (own_pick sa o6 o23) (own_pick sb o6 o23) o103 h123 n0 S124 E140 G123_1 G123_2 (own_pickR _ _ _) (own_pickR _ _ _)) (by decide) (W := 0) (by decide) (by decide) (by decide) e145 (by rw [hml]; rfl) (argsL := []) (rest := []) rfl (lenOf pd___Z rfl) rfl (Nat.le_of_eq rfl) (pc' := 122) rfl (hb hby at_119) ?_
      rintro _ T147 L147 X147 ⟨rfl, N147, e147⟩
      have M147 := Fr.app M145 N147
      show own_Goes p e below T147 (mkF m 122 #[.val (.int p1), .val (.int p2), .val (.int p3), .val (.long q4), .second, .val (.int p5), .val (.ref o1), .val (.ref o6), .val (.ref o23), .val (.int sa), .val (.int sb), .val (own_pick sa o6 o23), .val (own_pick sb o6 o23), .val (.int (1 : Int32)), .val (.ref o103), .val (.int (0 : Int32))] [(.int (own_chg (own_pick sb o6 o23) (own_pick sa o6 o23)))]) (own_Ret s (K_rm_law  Z h0 n0 p1 p2 p3 q4 p5) room_1.cells room_1.slots)
      refine own_iload X147 hx (pc' := 124) rfl (hb hby at_122) rfl ?_
      refine own_icmpF X147 hx (pc' := 127) rfl (hb hby at_124) (XT.ii_ne_f (own_end0 hsa hsb ne23_o6 c107_146)) ?_
      refine own_iconst X147 hx (v := (1 : Int32)) (pc' := 128) rfl (hb hby at_127) rfl ?_
      refine own_goto X147 hx (pc' := 132) (hb hby at_128) (by decide) (by decide) ?_
      refine own_zret X147 hx hlk hret (by simp) (hb hby at_132) (by decide) (by decide) ?_
      rw [e147]
      exact ⟨rfl, M147⟩
    · refine own_icmpF X145 hx (pc' := 110) rfl (hb hby at_107) (XT.ii_eq_f c107_146) ?_
      refine own_iconst X145 hx (v := (1 : Int32)) (pc' := 111) rfl (hb hby at_110) rfl ?_
      refine own_goto X145 hx (pc' := 115) (hb hby at_111) (by decide) (by decide) ?_
      refine own_istore X145 hx (Ls' := #[.val (.int p1), .val (.int p2), .val (.int p3), .val (.long q4), .second, .val (.int p5), .val (.ref o1), .val (.ref o6), .val (.ref o23), .val (.int sa), .val (.int sb), .val (own_pick sa o6 o23), .val (own_pick sb o6 o23), .val (.int (1 : Int32)), .val (.ref o103), .val (.int (1 : Int32))]) (pc' := 117) rfl (hb hby at_115) rfl ?_
      refine own_aload X145 hx (pc' := 119) rfl (hb hby at_117) rfl rfl ?_
      refine own_callV X145 hx hZ (y := (⟨"com/example/mayfly/mayfly/store/Store$Update", "changed", "()Z"⟩ : MethodName)) hown (hw _ (List.mem_of_getElem? (i := 48) rfl)) (hw _ (List.mem_of_getElem? (i := 49) rfl)) (hw _ (List.mem_of_getElem? (i := 51) rfl)) (hw _ (List.mem_of_getElem? (i := 50) rfl)) (hw _ (List.mem_of_getElem? (i := 29) rfl)) (hw _ (List.mem_of_getElem? (i := 52) rfl)) E140  (by decide) (rm_chg l Z a0 hw [] (own_pick sa o6 o23) (own_pick sb o6 o23) o103 h123 n0 S124 E140 G123_1 G123_2 (own_pickR _ _ _) (own_pickR _ _ _)) (by decide) (W := 0) (by decide) (by decide) (by decide) e145 (by rw [hml]; rfl) (argsL := []) (rest := []) rfl (lenOf pd___Z rfl) rfl (Nat.le_of_eq rfl) (pc' := 122) rfl (hb hby at_119) ?_
      rintro _ T148 L148 X148 ⟨rfl, N148, e148⟩
      have M148 := Fr.app M145 N148
      show own_Goes p e below T148 (mkF m 122 #[.val (.int p1), .val (.int p2), .val (.int p3), .val (.long q4), .second, .val (.int p5), .val (.ref o1), .val (.ref o6), .val (.ref o23), .val (.int sa), .val (.int sb), .val (own_pick sa o6 o23), .val (own_pick sb o6 o23), .val (.int (1 : Int32)), .val (.ref o103), .val (.int (1 : Int32))] [(.int (own_chg (own_pick sb o6 o23) (own_pick sa o6 o23)))]) (own_Ret s (K_rm_law  Z h0 n0 p1 p2 p3 q4 p5) room_1.cells room_1.slots)
      refine own_iload X148 hx (pc' := 124) rfl (hb hby at_122) rfl ?_
      refine own_icmpF X148 hx (pc' := 127) rfl (hb hby at_124) (XT.ii_ne_f (own_end1 hsa hsb ne23_o6 c107_146)) ?_
      refine own_iconst X148 hx (v := (1 : Int32)) (pc' := 128) rfl (hb hby at_127) rfl ?_
      refine own_goto X148 hx (pc' := 132) (hb hby at_128) (by decide) (by decide) ?_
      refine own_zret X148 hx hlk hret (by simp) (hb hby at_132) (by decide) (by decide) ?_
      rw [e148]
      exact ⟨rfl, M148⟩
set_option maxRecDepth 65536 in
set_option maxHeartbeats 40000000 in
theorem comes_1 {Post : Tables → Env → Array Value → State → Outcome → State → Prop} (hpost : ∀ tb e args s v u, (limb_1_1.after args s (.returned v) u = true ∧ limb_1_2.after args s (.returned v) u = true ∧ True) → FrameEnd s (.returned v) u (Jvm.fieldLocs frame_1_writes args s ++ Jvm.arrayLocs frame_1_arrays args s ++ Jvm.staticLocs frame_1_statics s) 16 128 → Post tb e args s (.returned v) u) :
    ArmFor flags0 classFile x code maxLocals ret World_1 tables_1 room_1 Calls_1 rest_1 Pre_1 Post := by
  intro l hfl _ _ p e ha hc hk s m args below hf hA hF happ hP
  obtain ⟨hcalls, hrest, hpre⟩ := hP
  obtain ⟨-, -, -, hnamed, -, -, -, hat⟩ := (Spec.applies_iff hf).mp happ
  obtain ⟨hg, hn⟩ := and_e (Cond.before_iff.mp (show (Jvm.Cond.and given_1 narrow_1).before args s = true from hpre))
  obtain ⟨h1, hg1⟩ := and_e hg
  obtain ⟨w0, w1, w2, w3, w4, rfl⟩ : ∃ w0 w1 w2 w3 w4 : Value, args = #[w0, w1, w2, w3, w4] := by
    have hs : args.size = 5 := by simpa [Cond.value, given_1] using h1
    obtain ⟨L⟩ := args
    match L, hs with
    | [w0, w1, w2, w3, w4], _ => exact ⟨w0, w1, w2, w3, w4, rfl⟩
  have hw := fun d (hd : d ∈ tables_1) => atoms_spec (ws := Jvm.Cond.code x code maxLocals ret :: tables_1) hat d (List.mem_cons_of_mem _ hd)
  have hfit : Fit s := fun {y c} hc i hi => by
    obtain ⟨ha, rfl⟩ := Array.getElem?_eq_some_iff.mp hc
    have q := List.all_eq_true.mp ((Array.all_eq_true_iff_forall_mem.mp hF) _ (Array.getElem_mem ha)) i (List.mem_range.mpr hi)
    simpa [Array.getElem?_eq_getElem hi] using q
  obtain ⟨q0, hg2⟩ := and_e hg1
  obtain ⟨i0, ee0⟩ := is_v q0
  obtain rfl : w0 = (.int i0) := Option.some.inj ee0
  obtain ⟨q1, hg3⟩ := and_e hg2
  obtain ⟨i1, ee1⟩ := is_v q1
  obtain rfl : w1 = (.int i1) := Option.some.inj ee1
  obtain ⟨q2, hg4⟩ := and_e hg3
  obtain ⟨i2, ee2⟩ := is_v q2
  obtain rfl : w2 = (.int i2) := Option.some.inj ee2
  obtain ⟨q3, hg5⟩ := and_e hg4
  obtain ⟨i3, ee3⟩ := isL_v q3
  obtain rfl : w3 = (.long i3) := Option.some.inj ee3
  obtain ⟨i4, ee4⟩ := is_v hg5
  obtain rfl : w4 = (.int i4) := Option.some.inj ee4
  obtain ⟨n, o, h1, h2, h3, _, L, rfl, ⟨rfl, N⟩, hq⟩ := rm_law l s _ hw tables_1  i0 i1 i2 i3 i4 s.heap s.heap.size (Nat.le_refl _) p e ha hc hk s m _ below hf ((Spec.applies_iff_loose hf).mp happ).1 ⟨rfl, State.Warmed39.refl s, rfl⟩ trivial
  refine ⟨n, _, h1, h2, h3, hpost _ _ _ _ _ _ ⟨Cond.after_iff.mpr rfl, Cond.after_iff.mpr (eq_i res_at (Term.int_eval (1)) rfl), trivial⟩ ⟨hq.1, hq.2.1, (hq.2.2.sift fun y hy => Or.inr (N y hy)).mono (by decide) (by decide)⟩⟩
theorem main_1_1 : Claimed_1_1 := comes_1 fun _ _ _ _ _ _ h hF => ⟨h.1, hF⟩
theorem main_1_2 : Claimed_1_2 := comes_1 fun _ _ _ _ _ _ h hF => ⟨h.2.1, hF⟩
end Jvm.Pilot.@@N@@
namespace Jvm.Pilot.@@N@@
open Jvm Jvm.ClassFile Sem Op Lib Jvm.Free Jvm.Stand Jvm.Pilot.@@N@@.Jvm.D
/-! MADE BY PROGRAM (witnessworld.py) out of the Statement's table words and the real class files: 11 classes; the members and pool entries that the words name. The judged class is class 1, her method 3. -/
namespace start1
open Jvm.ClassFile
def u (s : String) : CpInfo := .utf8 (stringToUtf16 s)
/-- a pool by its gaps: so many unusable entries, then the entry; so many at the end -/
def gap : Nat → List CpInfo → List CpInfo
  | 0, r => r
  | n + 1, r => .unusable :: gap n r
def poolList (es : List (Nat × CpInfo)) (last : Nat) : List CpInfo := es.foldr (fun e r => gap e.1 (e.2 :: r)) (gap last [])
def pool (es : List (Nat × CpInfo)) (last : Nat) : Array CpInfo := ⟨poolList es last⟩
def fileOf (pool : Array CpInfo) (this : Nat) (attrs : Array Attribute := #[]) (ms : Array MethodInfo := #[]) (fl : Nat := 33) (sup : Nat := 0) (ifs : Array Nat := #[]) (fds : Array FieldInfo := #[]) : ClassFile where
  minorVersion := 0
  majorVersion := 65
  constantPool := pool
  accessFlags := fl
  thisClass := this
  superClass := sup
  interfaces := ifs
  fields := fds
  methods := ms
  attributes := attrs
def plain (name : String) (sup : Option ClassId) : Class where
  name := name
  kind := .ordinary
  loader := none
  accessFlags := 33
  super := sup
  interfaces := #[]
  cf := none
  fields := #[]
  methods := #[]
  instanceTypes := #[]
  staticTypes := #[]
  resolved := #[]
  callSites := []
  init := .initialized
  statics := none
  mirror := none

def pool0 : Array CpInfo := pool [(5, u "<init>"), (0, u "()V"), (1, .class_ 10), (1, u "java/lang/Object")] 113

def k0c0 : Code := { maxStack := 0, maxLocals := 1, code := object_method_1_code, exceptionTable := #[], attributes := #[] }
def k0m0 : Method := { name := "<init>", desc := "()V", sig := { parameters := [], returnType := none }, accessFlags := 1, code := some k0c0 }
/-- java/lang/Object -/
def k0 : Class := { plain "java/lang/Object" none with
  accessFlags := 33
  interfaces := #[]
  cf := some (fileOf pool0 8 #[] #[{ accessFlags := 1, nameIndex := 5, descriptorIndex := 6, attributes := #[] }] 33 0 #[] #[])
  fields := #[]
  methods := #[k0m0]
  instanceTypes := #[]
  staticTypes := #[]
  resolved := Array.replicate 124 none
  statics := none }

def pool1 : Array CpInfo := pool [(2, .class_ 4), (1, u "java/lang/Object"), (0, u "<init>"), (0, u "()V"), (0, .class_ 8), (0, u "com/example/mayfly/mayfly/store/Item"), (0, .methodref 7 10), (0, .nameAndType 5 11), (0, u "([BIJ)V"), (0, .methodref 13 14), (0, .class_ 15), (0, .nameAndType 16 17), (0, u "com/example/mayfly/mayfly/store/UpdateChangedPinLaw"), (0, u "pick"), (0, u "(ILcom/example/mayfly/mayfly/store/Item;Lcom/example/mayfly/mayfly/store/Item;)Lcom/example/mayfly/mayfly/store/Item;"), (0, .class_ 19), (0, u "com/example/mayfly/mayfly/store/Store$Update"), (0, .methodref 18 21), (0, .nameAndType 5 22), (0, u "(Lcom/example/mayfly/mayfly/store/Item;Lcom/example/mayfly/mayfly/store/Item;Z)V"), (0, .methodref 13 24), (0, .nameAndType 25 26), (0, u "ident"), (0, u "(I)I"), (0, .methodref 18 28), (0, .nameAndType 29 30), (0, u "changed"), (0, u "()Z"), (3, u "law"), (0, u "(IIIJI)Z")] 8

def k1m0 : Method := { name := "<init>", desc := "()V", sig := { parameters := [], returnType := none }, accessFlags := 1, code := none }
def k1c1 : Code := { maxStack := 2, maxLocals := 1, code := method_2_code, exceptionTable := #[], attributes := #[] }
def k1m1 : Method := { name := "ident", desc := "(I)I", sig := { parameters := [.int], returnType := some .int }, accessFlags := 10, code := some k1c1 }
def k1c2 : Code := { maxStack := 2, maxLocals := 3, code := method_3_code, exceptionTable := #[], attributes := #[] }
def k1m2 : Method := { name := "pick", desc := "(ILcom/example/mayfly/mayfly/store/Item;Lcom/example/mayfly/mayfly/store/Item;)Lcom/example/mayfly/mayfly/store/Item;", sig := { parameters := [.int, (.object "com/example/mayfly/mayfly/store/Item"), (.object "com/example/mayfly/mayfly/store/Item")], returnType := some (.object "com/example/mayfly/mayfly/store/Item") }, accessFlags := 10, code := some k1c2 }
def k1c3 : Code := { maxStack := 6, maxLocals := 16, code := code, exceptionTable := #[], attributes := #[] }
def k1m3 : Method := { name := "law", desc := "(IIIJI)Z", sig := { parameters := [.int, .int, .int, .long, .int], returnType := some .boolean }, accessFlags := 9, code := some k1c3 }
/-- com/example/mayfly/mayfly/store/UpdateChangedPinLaw -/
def k1 : Class := { plain "com/example/mayfly/mayfly/store/UpdateChangedPinLaw" (some 0) with
  accessFlags := 49
  interfaces := #[]
  cf := some (fileOf pool1 13 #[] #[{ accessFlags := 1, nameIndex := 5, descriptorIndex := 6, attributes := #[] }, { accessFlags := 10, nameIndex := 25, descriptorIndex := 26, attributes := #[] }, { accessFlags := 10, nameIndex := 16, descriptorIndex := 17, attributes := #[] }, { accessFlags := 9, nameIndex := 34, descriptorIndex := 35, attributes := #[] }] 49 2 #[] #[])
  fields := #[]
  methods := #[k1m0, k1m1, k1m2, k1m3]
  instanceTypes := #[]
  staticTypes := #[]
  resolved := Array.replicate 44 none
  statics := none }

def pool2 : Array CpInfo := pool [(1, .methodref 2 3), (0, .class_ 4), (0, .nameAndType 5 6), (0, u "com/example/mayfly/mayfly/store/Item"), (0, u "<init>"), (0, u "([BIJJZ)V"), (0, .methodref 8 9), (0, .class_ 10), (0, .nameAndType 5 11), (0, u "java/lang/Object"), (0, u "()V"), (0, .fieldref 2 13), (0, .nameAndType 14 15), (0, u "value"), (0, u "[B"), (0, .fieldref 2 17), (0, .nameAndType 18 19), (0, u "flags"), (0, u "I"), (0, .fieldref 2 21), (0, .nameAndType 22 23), (0, u "deadline"), (0, u "J"), (0, .fieldref 2 25), (0, .nameAndType 26 23), (0, u "cas"), (0, .fieldref 2 28), (0, .nameAndType 29 30), (0, u "read"), (0, u "Z"), (0, u "([BIJ)V")] 14

def k2c0 : Code := { maxStack := 8, maxLocals := 5, code := prog_15_method_1_code, exceptionTable := #[], attributes := #[] }
def k2m0 : Method := { name := "<init>", desc := "([BIJ)V", sig := { parameters := [(.array .byte), .int, .long], returnType := none }, accessFlags := 1, code := some k2c0 }
def k2c1 : Code := { maxStack := 3, maxLocals := 8, code := prog_15_method_2_code, exceptionTable := #[], attributes := #[] }
def k2m1 : Method := { name := "<init>", desc := "([BIJJZ)V", sig := { parameters := [(.array .byte), .int, .long, .long, .boolean], returnType := none }, accessFlags := 2, code := some k2c1 }
/-- com/example/mayfly/mayfly/store/Item -/
def k2 : Class := { plain "com/example/mayfly/mayfly/store/Item" (some 0) with
  accessFlags := 49
  interfaces := #[]
  cf := some (fileOf pool2 2 #[] #[{ accessFlags := 1, nameIndex := 5, descriptorIndex := 31, attributes := #[] }, { accessFlags := 2, nameIndex := 5, descriptorIndex := 6, attributes := #[] }] 49 8 #[] #[{ accessFlags := 18, nameIndex := 14, descriptorIndex := 15, attributes := #[] }, { accessFlags := 18, nameIndex := 18, descriptorIndex := 19, attributes := #[] }, { accessFlags := 18, nameIndex := 22, descriptorIndex := 23, attributes := #[] }, { accessFlags := 18, nameIndex := 26, descriptorIndex := 23, attributes := #[] }, { accessFlags := 66, nameIndex := 29, descriptorIndex := 30, attributes := #[] }])
  fields := #[{ name := "value", type := (.array .byte), accessFlags := 18, slot := 0, constantValue := 0 }, { name := "flags", type := .int, accessFlags := 18, slot := 1, constantValue := 0 }, { name := "deadline", type := .long, accessFlags := 18, slot := 2, constantValue := 0 }, { name := "cas", type := .long, accessFlags := 18, slot := 3, constantValue := 0 }, { name := "read", type := .boolean, accessFlags := 66, slot := 4, constantValue := 0 }]
  methods := #[k2m0, k2m1]
  instanceTypes := #[(.array .byte), .int, .long, .long, .boolean]
  staticTypes := #[]
  resolved := Array.replicate 46 none
  statics := none }

def pool3 : Array CpInfo := pool [(1, .methodref 2 3), (0, .class_ 4), (0, .nameAndType 5 6), (0, u "java/lang/Object"), (0, u "<init>"), (0, u "()V"), (0, .class_ 8), (0, u "java/lang/Record")] 13

def k3c0 : Code := { maxStack := 1, maxLocals := 1, code := jdk_30_method_1_code, exceptionTable := #[], attributes := #[] }
def k3m0 : Method := { name := "<init>", desc := "()V", sig := { parameters := [], returnType := none }, accessFlags := 4, code := some k3c0 }
/-- java/lang/Record -/
def k3 : Class := { plain "java/lang/Record" (some 0) with
  accessFlags := 1057
  interfaces := #[]
  cf := some (fileOf pool3 7 #[] #[{ accessFlags := 4, nameIndex := 5, descriptorIndex := 6, attributes := #[] }] 1057 2 #[] #[])
  fields := #[]
  methods := #[k3m0]
  instanceTypes := #[]
  staticTypes := #[]
  resolved := Array.replicate 22 none
  statics := none }

def pool4 : Array CpInfo := pool [(1, .methodref 2 3), (0, .class_ 4), (0, .nameAndType 5 6), (0, u "java/lang/Record"), (0, u "<init>"), (0, u "()V"), (0, .fieldref 8 9), (0, .class_ 10), (0, .nameAndType 11 12), (0, u "com/example/mayfly/mayfly/store/Store$Update"), (0, u "before"), (0, u "Lcom/example/mayfly/mayfly/store/Item;"), (0, .fieldref 8 14), (0, .nameAndType 15 12), (0, u "after"), (0, .fieldref 8 17), (0, .nameAndType 18 19), (0, u "expired"), (0, u "Z"), (12, u "(Lcom/example/mayfly/mayfly/store/Item;Lcom/example/mayfly/mayfly/store/Item;Z)V"), (3, u "changed"), (0, u "()Z"), (8, .class_ 47), (0, u "com/example/mayfly/mayfly/store/Store")] 21

def k4c0 : Code := { maxStack := 2, maxLocals := 4, code := prog_31_method_1_code, exceptionTable := #[], attributes := #[] }
def k4m0 : Method := { name := "<init>", desc := "(Lcom/example/mayfly/mayfly/store/Item;Lcom/example/mayfly/mayfly/store/Item;Z)V", sig := { parameters := [(.object "com/example/mayfly/mayfly/store/Item"), (.object "com/example/mayfly/mayfly/store/Item"), .boolean], returnType := none }, accessFlags := 1, code := some k4c0 }
def k4c1 : Code := { maxStack := 2, maxLocals := 1, code := prog_31_method_2_code, exceptionTable := #[], attributes := #[] }
def k4m1 : Method := { name := "changed", desc := "()Z", sig := { parameters := [], returnType := some .boolean }, accessFlags := 1, code := some k4c1 }
/-- com/example/mayfly/mayfly/store/Store$Update -/
def k4 : Class := { plain "com/example/mayfly/mayfly/store/Store$Update" (some 3) with
  accessFlags := 49
  interfaces := #[]
  cf := some (fileOf pool4 8 #[.nestHost 46] #[{ accessFlags := 1, nameIndex := 5, descriptorIndex := 32, attributes := #[] }, { accessFlags := 1, nameIndex := 36, descriptorIndex := 37, attributes := #[] }] 49 2 #[] #[{ accessFlags := 18, nameIndex := 11, descriptorIndex := 12, attributes := #[] }, { accessFlags := 18, nameIndex := 15, descriptorIndex := 12, attributes := #[] }, { accessFlags := 18, nameIndex := 18, descriptorIndex := 19, attributes := #[] }])
  fields := #[{ name := "before", type := (.object "com/example/mayfly/mayfly/store/Item"), accessFlags := 18, slot := 0, constantValue := 0 }, { name := "after", type := (.object "com/example/mayfly/mayfly/store/Item"), accessFlags := 18, slot := 1, constantValue := 0 }, { name := "expired", type := .boolean, accessFlags := 18, slot := 2, constantValue := 0 }]
  methods := #[k4m0, k4m1]
  instanceTypes := #[(.object "com/example/mayfly/mayfly/store/Item"), (.object "com/example/mayfly/mayfly/store/Item"), .boolean]
  staticTypes := #[]
  resolved := Array.replicate 69 none
  statics := none }

def pool5 : Array CpInfo := pool [(1, u "java/lang/Cloneable"), (0, .class_ 1), (0, u "java/lang/Object"), (0, .class_ 3)] 3

/-- java/lang/Cloneable -/
def k5 : Class := { plain "java/lang/Cloneable" (some 0) with
  accessFlags := 1537
  interfaces := #[]
  cf := some (fileOf pool5 2 #[] #[] 1537 4 #[] #[])
  fields := #[]
  methods := #[]
  instanceTypes := #[]
  staticTypes := #[]
  resolved := Array.replicate 8 none
  statics := none }

def pool6 : Array CpInfo := pool [(1, u "java/io/Serializable"), (0, .class_ 1), (0, u "java/lang/Object"), (0, .class_ 3)] 3

/-- java/io/Serializable -/
def k6 : Class := { plain "java/io/Serializable" (some 0) with
  accessFlags := 1537
  interfaces := #[]
  cf := some (fileOf pool6 2 #[] #[] 1537 4 #[] #[])
  fields := #[]
  methods := #[]
  instanceTypes := #[]
  staticTypes := #[]
  resolved := Array.replicate 8 none
  statics := none }

/-- the primitive byte -/
def k7 : Class := { plain "byte" none with kind := .primitive 'B', accessFlags := 0x411 }
/-- [B -/
def k8 : Class := { plain "[B" (some 0) with kind := .array 7 .byte, interfaces := #[5, 6], accessFlags := 1041 }

/-- the primitive int -/
def k9 : Class := { plain "int" none with kind := .primitive 'I', accessFlags := 0x411 }
/-- [I -/
def k10 : Class := { plain "[I" (some 0) with kind := .array 9 .int, interfaces := #[5, 6], accessFlags := 1041 }

def heap : Heap := #[]
def classes : Array Class := #[k0, k1, k2, k3, k4, k5, k6, k7, k8, k9, k10]
def interned : List (Array UInt16 × Addr) := []
def slotsUsed : Nat := 0
def theMethod : MethodId := ⟨1, 3⟩
def args0 : Array Value := #[.int 5, .int 7, .int 9, .long 11, .int 3]
def aboutOver (below : List Frame) : State where
  vm := { classes := classes, interned := interned.toArray }
  heap := heap
  slotsUsed := slotsUsed
  threads := #[{ frames := .invoking theMethod args0 :: below }]
def below0 : List Frame := [.native { method := ⟨0, 0⟩, args := #[] }]
def about1 : State := aboutOver below0
def p0 : Program := .bare "" "" ""
def e0 : Env := launch0.env 0 0 0
theorem w_frames : about1.frames = Frame.invoking theMethod args0 :: below0 := rfl
set_option maxRecDepth 65536 in
theorem w_args : argsFit about1.vm theMethod args0 = true := by decide +kernel
set_option maxRecDepth 65536 in
theorem w_heap : heapFits about1 = true := by decide +kernel
set_option maxRecDepth 65536 in
theorem w_runnable : about1.curStatus? = some .runnable := by decide +kernel
set_option maxRecDepth 65536 in
theorem w_alone : about1.alone = true := by decide +kernel
set_option maxRecDepth 65536 in
theorem w_named : about1.methodNamed? x = some theMethod := by decide +kernel
set_option maxRecDepth 65536 in
theorem w_hears : about1.hears theMethod below0 = true := by decide +kernel
set_option maxRecDepth 65536 in
theorem w_ripe : about1.ripe theMethod args0 below0 = true := by decide +kernel
theorem w_running : about1.status = .running := rfl
set_option maxRecDepth 65536 in
theorem w_room : about1.hasRoom e0.platform room_1 = true :=
  launch0.hasRoom_least _ room_1 (by decide +kernel) (by decide +kernel) (by decide +kernel) (by decide +kernel) (by decide +kernel) (by decide +kernel)
theorem allAtoms_all (ts : List Jvm.Cond) (a : Array Jvm.Value) (st : Jvm.State) : (allAtoms ts).before a st = ts.all (fun c => c.before a st) := by
  induction ts with
  | nil => rfl
  | cons c t ih =>
    show (Jvm.Cond.and c (allAtoms t)).before a st = _
    rw [Jvm.Cond.before_and, ih, List.all_cons]
def words1 : List Jvm.Cond := Jvm.Cond.code x code maxLocals ret :: tables_1
/-- a 'code' word, met by the world's own term for the bytes: nothing is compared byte by byte -/
theorem code_word {y : MethodName} {bytes : ByteArray} {mx : Nat} {rt : Option FieldType} {a : Array Value} {s : State} {m : MethodId} {meth : Method} {c : Code} (h1 : s.methodNamed? y = some m) (h2 : s.vm.method? m = some meth) (h3 : meth.code = some c) (h4 : c.code = bytes)
    (h5 : (c.maxLocals == mx && c.exceptionTable.isEmpty && decide (c.maxStack ≤ mostOperands) && decide (meth.sig.returnType = rt) && !meth.locks && decide (parseMethodDescriptor y.desc = some meth.sig)) = true) : (Jvm.Cond.code y bytes mx rt).before a s = true := by
  simp only [Bool.and_eq_true, beq_iff_eq, Bool.not_eq_true', decide_eq_true_eq] at h5
  obtain ⟨⟨⟨⟨⟨g1, g2⟩, g3⟩, g4⟩, g5⟩, g6⟩ := h5
  simp [Cond.before, Cond.holds, Cond.value, h1, h2, h3, h4, g1, g2, g3, g4, g5, g6]
def isCode : Jvm.Cond → Bool
  | .code _ _ _ _ => true
  | _ => false
theorem all_split {L : List Jvm.Cond} {P : Jvm.Cond → Bool} (h1 : L.all (fun c => isCode c || P c) = true) (h2 : ∀ c ∈ L.filter isCode, P c = true) : L.all P = true := by
  refine List.all_eq_true.mpr fun c hc => ?_
  have h := List.all_eq_true.mp h1 c hc
  rcases Bool.eq_false_or_eq_true (isCode c) with hi | hi
  · exact h2 c (List.mem_filter.mpr ⟨hc, hi⟩)
  · simpa [hi] using h
set_option maxRecDepth 65536 in
theorem w_c0 : (Jvm.Cond.code x code maxLocals ret).before args0 about1 = true := code_word (m := ⟨1, 3⟩) (meth := k1m3) (c := k1c3) (by decide +kernel) rfl rfl rfl (by decide +kernel)
set_option maxRecDepth 65536 in
theorem w_c1 : (Jvm.Cond.code ({ cls := "com/example/mayfly/mayfly/store/Item", name := "<init>", desc := "([BIJ)V" } : Jvm.MethodName) prog_15_method_1_code (5 : Nat) (Option.none : Option Jvm.ClassFile.FieldType)).before args0 about1 = true := code_word (m := ⟨2, 0⟩) (meth := k2m0) (c := k2c0) (by decide +kernel) rfl rfl rfl (by decide +kernel)
set_option maxRecDepth 65536 in
theorem w_c2 : (Jvm.Cond.code ({ cls := "com/example/mayfly/mayfly/store/Item", name := "<init>", desc := "([BIJJZ)V" } : Jvm.MethodName) prog_15_method_2_code (8 : Nat) (Option.none : Option Jvm.ClassFile.FieldType)).before args0 about1 = true := code_word (m := ⟨2, 1⟩) (meth := k2m1) (c := k2c1) (by decide +kernel) rfl rfl rfl (by decide +kernel)
set_option maxRecDepth 65536 in
theorem w_c3 : (Jvm.Cond.code ({ cls := "java/lang/Object", name := "<init>", desc := "()V" } : Jvm.MethodName) object_method_1_code (1 : Nat) (Option.none : Option Jvm.ClassFile.FieldType)).before args0 about1 = true := code_word (m := ⟨0, 0⟩) (meth := k0m0) (c := k0c0) (by decide +kernel) rfl rfl rfl (by decide +kernel)
set_option maxRecDepth 65536 in
theorem w_c4 : (Jvm.Cond.code ({ cls := "com/example/mayfly/mayfly/store/UpdateChangedPinLaw", name := "pick", desc := "(ILcom/example/mayfly/mayfly/store/Item;Lcom/example/mayfly/mayfly/store/Item;)Lcom/example/mayfly/mayfly/store/Item;" } : Jvm.MethodName) method_3_code (3 : Nat) (Option.some (Jvm.ClassFile.FieldType.object "com/example/mayfly/mayfly/store/Item"))).before args0 about1 = true := code_word (m := ⟨1, 2⟩) (meth := k1m2) (c := k1c2) (by decide +kernel) rfl rfl rfl (by decide +kernel)
set_option maxRecDepth 65536 in
theorem w_c5 : (Jvm.Cond.code ({ cls := "com/example/mayfly/mayfly/store/Store$Update", name := "<init>", desc := "(Lcom/example/mayfly/mayfly/store/Item;Lcom/example/mayfly/mayfly/store/Item;Z)V" } : Jvm.MethodName) prog_31_method_1_code (4 : Nat) (Option.none : Option Jvm.ClassFile.FieldType)).before args0 about1 = true := code_word (m := ⟨4, 0⟩) (meth := k4m0) (c := k4c0) (by decide +kernel) rfl rfl rfl (by decide +kernel)
set_option maxRecDepth 65536 in
theorem w_c6 : (Jvm.Cond.code ({ cls := "java/lang/Record", name := "<init>", desc := "()V" } : Jvm.MethodName) jdk_30_method_1_code (1 : Nat) (Option.none : Option Jvm.ClassFile.FieldType)).before args0 about1 = true := code_word (m := ⟨3, 0⟩) (meth := k3m0) (c := k3c0) (by decide +kernel) rfl rfl rfl (by decide +kernel)
set_option maxRecDepth 65536 in
theorem w_c7 : (Jvm.Cond.code ({ cls := "com/example/mayfly/mayfly/store/UpdateChangedPinLaw", name := "ident", desc := "(I)I" } : Jvm.MethodName) method_2_code (1 : Nat) (Option.some Jvm.ClassFile.FieldType.int)).before args0 about1 = true := code_word (m := ⟨1, 1⟩) (meth := k1m1) (c := k1c1) (by decide +kernel) rfl rfl rfl (by decide +kernel)
set_option maxRecDepth 65536 in
theorem w_c8 : (Jvm.Cond.code ({ cls := "com/example/mayfly/mayfly/store/Store$Update", name := "changed", desc := "()Z" } : Jvm.MethodName) prog_31_method_2_code (1 : Nat) (Option.some Jvm.ClassFile.FieldType.boolean)).before args0 about1 = true := code_word (m := ⟨4, 1⟩) (meth := k4m1) (c := k4c1) (by decide +kernel) rfl rfl rfl (by decide +kernel)
def codes1 : List Jvm.Cond := [Jvm.Cond.code x code maxLocals ret, Jvm.Cond.code ({ cls := "com/example/mayfly/mayfly/store/Item", name := "<init>", desc := "([BIJ)V" } : Jvm.MethodName) prog_15_method_1_code (5 : Nat) (Option.none : Option Jvm.ClassFile.FieldType), Jvm.Cond.code ({ cls := "com/example/mayfly/mayfly/store/Item", name := "<init>", desc := "([BIJJZ)V" } : Jvm.MethodName) prog_15_method_2_code (8 : Nat) (Option.none : Option Jvm.ClassFile.FieldType), Jvm.Cond.code ({ cls := "java/lang/Object", name := "<init>", desc := "()V" } : Jvm.MethodName) object_method_1_code (1 : Nat) (Option.none : Option Jvm.ClassFile.FieldType), Jvm.Cond.code ({ cls := "com/example/mayfly/mayfly/store/UpdateChangedPinLaw", name := "pick", desc := "(ILcom/example/mayfly/mayfly/store/Item;Lcom/example/mayfly/mayfly/store/Item;)Lcom/example/mayfly/mayfly/store/Item;" } : Jvm.MethodName) method_3_code (3 : Nat) (Option.some (Jvm.ClassFile.FieldType.object "com/example/mayfly/mayfly/store/Item")), Jvm.Cond.code ({ cls := "com/example/mayfly/mayfly/store/Store$Update", name := "<init>", desc := "(Lcom/example/mayfly/mayfly/store/Item;Lcom/example/mayfly/mayfly/store/Item;Z)V" } : Jvm.MethodName) prog_31_method_1_code (4 : Nat) (Option.none : Option Jvm.ClassFile.FieldType), Jvm.Cond.code ({ cls := "java/lang/Record", name := "<init>", desc := "()V" } : Jvm.MethodName) jdk_30_method_1_code (1 : Nat) (Option.none : Option Jvm.ClassFile.FieldType), Jvm.Cond.code ({ cls := "com/example/mayfly/mayfly/store/UpdateChangedPinLaw", name := "ident", desc := "(I)I" } : Jvm.MethodName) method_2_code (1 : Nat) (Option.some Jvm.ClassFile.FieldType.int), Jvm.Cond.code ({ cls := "com/example/mayfly/mayfly/store/Store$Update", name := "changed", desc := "()Z" } : Jvm.MethodName) prog_31_method_2_code (1 : Nat) (Option.some Jvm.ClassFile.FieldType.boolean)]
set_option maxRecDepth 65536 in
theorem codes_eq : words1.filter isCode = codes1 := rfl
theorem w_codes : ∀ c ∈ words1.filter isCode, c.before args0 about1 = true := by
  rw [codes_eq]
  intro c hc
  simp only [codes1, List.mem_cons, List.not_mem_nil, or_false] at hc
  rcases hc with rfl | rfl | rfl | rfl | rfl | rfl | rfl | rfl | rfl
  · exact w_c0
  · exact w_c1
  · exact w_c2
  · exact w_c3
  · exact w_c4
  · exact w_c5
  · exact w_c6
  · exact w_c7
  · exact w_c8
set_option maxRecDepth 65536 in
theorem w_t1 : (words1.take 24).all (fun c => isCode c || c.before args0 about1) = true := by decide +kernel
set_option maxRecDepth 65536 in
theorem w_t2 : ((words1.drop 24).take 24).all (fun c => isCode c || c.before args0 about1) = true := by decide +kernel
set_option maxRecDepth 65536 in
theorem w_t3 : ((words1.drop 24).drop 24).all (fun c => isCode c || c.before args0 about1) = true := by decide +kernel
theorem w_tables : (allAtoms (Jvm.Cond.code x code maxLocals ret :: tables_1)).before args0 about1 = true := by
  rw [allAtoms_all]
  show words1.all (fun c => c.before args0 about1) = true
  refine all_split ?_ w_codes
  rw [← List.take_append_drop 24 words1, List.all_append, w_t1, ← List.take_append_drop 24 (words1.drop 24), List.all_append, w_t2, w_t3]
  rfl
set_option maxRecDepth 65536 in
theorem w_case : (Jvm.Cond.and given_1 narrow_1).before args0 about1 = true := by decide +kernel
theorem w_applies : (headSpec (Jvm.Cond.code x code maxLocals ret :: tables_1) room_1).applies x e0.platform about1 = true :=
  (Spec.applies_iff w_frames).mpr ⟨w_running, w_runnable, w_alone, w_named, w_hears, w_ripe, w_room, w_tables⟩
theorem atStart : AtStart classFile x code maxLocals ret World_1 tables_1 room_1 Calls_1 rest_1 Pre_1 launch0 p0 e0 about1 theMethod args0 below0 :=
  ⟨lists_1, trivial, launch0.admits_env _ _ _, launch0.least_env, fairChoices_fair.cas, fairChoices_fair.clock, w_frames, w_args, w_heap, w_applies, trivial, trivial, w_case⟩
end start1
theorem witness_1 : WitnessClaimed_1 := ⟨start1.p0, start1.e0, start1.about1, start1.theMethod, start1.args0, start1.below0, start1.atStart⟩
end Jvm.Pilot.@@N@@
