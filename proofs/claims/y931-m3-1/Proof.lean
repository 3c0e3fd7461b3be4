import JvmDerived
import JvmDerived.Pilot.@@N@@Statement
import JvmDerived.Pilot.@@N@@Code
set_option linter.unusedVariables false
set_option linter.unusedSimpArgs false
@@BLOCK:NumsL.lean.txt@@
namespace Jvm.Pilot.@@N@@
open Jvm Jvm.ClassFile Sem Op Lib Jvm.Free Jvm.Stand Jvm.LawKit Jvm.RoadKit Bundle Jvm.Pilot.@@N@@.Jvm.D
/-! 1. OWN: a walk in continuation style: 'own_Goes': from this frame the run comes back with an outcome of which Q holds -/
def own_Goes (p : Program) (e : Env) (below : List Frame) (T : State) (F : JFrame) (Q : Outcome → State → Prop) : Prop := ∃ s₂ o, Steps p.tables e below (T.setTop F) s₂ ∧ s₂.status = .running ∧ Ended s₂ below o ∧ Q o s₂
def own_Ret (s : State) (K : Option Value → Heap → List Loc → Prop) (rc rs : Nat) (o : Outcome) (U' : State) : Prop := ∃ v L, o = .returned v ∧ K v U'.heap L ∧ FrameEnd s o U' L rc rs
def own_upd (f : Nat → Value) (k : Nat) (v : Value) : Nat → Value := fun i => if i = k then v else f i
/-- an array of n places at a; place j holds f j -/
def own_Arr (Z : State) (h : Heap) (a : Addr) (ty : FieldType) (n : Nat) (f : Nat → Value) : Prop := ∃ c : Cell, Arr Z h a c ty ∧ c.slots.size = n ∧ n < 2 ^ 31 ∧ ∀ j, j < n → c.slots[j]? = some (f j)
section Own
variable {p : Program} {l : Launch} {e : Env} {R : Room} {s : State} {m : MethodId} {args : Array Value} {below : List Frame} {meth : Method} {c : Code} {T : State} {locs : List Loc} {cells slots : Nat} {Z : State} {a0 : Array Value} {h h' : Heap} {Q : Outcome → State → Prop} {Ls Ls' : Array Slot} {st : List Value} {pc pc' : Nat}
theorem own_step {T' : State} {F F' : JFrame} (k : ∀ t, Steps p.tables e below (T'.setTop F') t → Steps p.tables e below (T.setTop F) t) (q : own_Goes p e below T' F' Q) : own_Goes p e below T F Q := by
  obtain ⟨s2, o, h1, h2⟩ := q
  exact ⟨s2, o, k _ h1, h2⟩
theorem own_body {y : MethodName} {bytes : ByteArray} {maxL : Nat} {rt : Option FieldType} {ws : List Jvm.Cond} {rm : Room} {as : Array Value} {h0 : Heap} {K : Option Value → Heap → List Loc → Prop} (hpl : plainFor y = true)
    (body : ∀ (p : Program) (e : Env) (s : State) (m : MethodId) (below : List Frame) (meth : Method) (c : Code) (s₁ : State), p.tables.exec = Jvm.exec → c.code = bytes → c.maxLocals = maxL → s.vm.findClass y.cls = some m.cls → meth.name = y.name → meth.sig.returnType = rt → meth.locks = false → Z.Warmed39 s.vm →
      Stand p l e rm s m as below meth c s₁ [] 0 0 → s₁.heap = h0 → own_Goes p e below s₁ (entryFrame m as maxL) (own_Ret s K rm.cells rm.slots)) :
    MetFree l y (head1 (Jvm.Cond.code y bytes maxL rt :: ws) rm) (fun a U => a = as ∧ Z.Warmed39 U.vm ∧ U.heap = h0) (fun _ _ _ _ _ => True) (fun _ U o U' => ∃ v L, o = .returned v ∧ K v U'.heap L ∧ FrameEnd U o U' L rm.cells rm.slots) := by
  refine MetFree.of_bodySF hpl hisR ?_
  intro p e s m args below meth c s₁ Bd hml0 hP hK
  obtain ⟨rfl, hZ, hh⟩ := hP
  exact body p e s m below meth c s₁ Bd.exec Bd.bytes hml0 (findClass_of_methodNamed Bd.named) (name_of_methodNamed Bd.named Bd.method).1 Bd.returns Bd.notSynchronized hZ (Stand.of_body Bd) (by rw [← hh, Bd.state]; rfl)
theorem own_iload (X : Stand p l e R s m args below meth c T locs cells slots) (hx : p.tables.exec = Jvm.exec) {k : Nat} {v : Int32} (hp : pc + 2 = pc') (hd : decode c.code pc = .ok (.iload k, 2)) (hl : Ls[k]? = some (.val (.int v))) (k : own_Goes p e below T (mkF m pc' Ls (.int v :: st)) Q) : own_Goes p e below T (mkF m pc Ls st) Q := by
  subst hp; exact own_step (fun _ q => XS.iload X.here hx rfl hd hl q) k
theorem own_iloadN (X : Stand p l e R s m args below meth c T locs cells slots) (hx : p.tables.exec = Jvm.exec) {k : Fin 4} {v : Int32} (hp : pc + 1 = pc') (hd : decode c.code pc = .ok (.iload_n k, 1)) (hl : Ls[k.val]? = some (.val (.int v))) (k : own_Goes p e below T (mkF m pc' Ls (.int v :: st)) Q) : own_Goes p e below T (mkF m pc Ls st) Q := by
  subst hp; exact own_step (fun _ q => XS.iloadN X.here hx rfl hd hl q) k
theorem own_istore (X : Stand p l e R s m args below meth c T locs cells slots) (hx : p.tables.exec = Jvm.exec) {k : Nat} {v : Int32} (hp : pc + 2 = pc') (hd : decode c.code pc = .ok (.istore k, 2)) (hl : storeLocals Ls k (.int v) = some Ls') (k : own_Goes p e below T (mkF m pc' Ls' st) Q) : own_Goes p e below T (mkF m pc Ls (.int v :: st)) Q := by
  subst hp; exact own_step (fun _ q => XS.istore X.here hx rfl hd rfl hl q) k
theorem own_istoreN (X : Stand p l e R s m args below meth c T locs cells slots) (hx : p.tables.exec = Jvm.exec) {k : Fin 4} {v : Int32} (hp : pc + 1 = pc') (hd : decode c.code pc = .ok (.istore_n k, 1)) (hl : storeLocals Ls k.val (.int v) = some Ls') (k : own_Goes p e below T (mkF m pc' Ls' st) Q) : own_Goes p e below T (mkF m pc Ls (.int v :: st)) Q := by
  subst hp; exact own_step (fun _ q => XS.istoreN X.here hx rfl hd rfl hl q) k
theorem own_lload (X : Stand p l e R s m args below meth c T locs cells slots) (hx : p.tables.exec = Jvm.exec) {k : Nat} {v : Int64} (hp : pc + 2 = pc') (hd : decode c.code pc = .ok (.lload k, 2)) (hl : Ls[k]? = some (.val (.long v))) (k : own_Goes p e below T (mkF m pc' Ls (.long v :: st)) Q) : own_Goes p e below T (mkF m pc Ls st) Q := by
  subst hp; exact own_step (fun _ q => XT.lload X.here hx rfl hd hl q) k
theorem own_lloadN (X : Stand p l e R s m args below meth c T locs cells slots) (hx : p.tables.exec = Jvm.exec) {k : Fin 4} {v : Int64} (hp : pc + 1 = pc') (hd : decode c.code pc = .ok (.lload_n k, 1)) (hl : Ls[k.val]? = some (.val (.long v))) (k : own_Goes p e below T (mkF m pc' Ls (.long v :: st)) Q) : own_Goes p e below T (mkF m pc Ls st) Q := by
  subst hp; exact own_step (fun _ q => XT.lloadN X.here hx rfl hd hl q) k
theorem own_lstore (X : Stand p l e R s m args below meth c T locs cells slots) (hx : p.tables.exec = Jvm.exec) {k : Nat} {v : Int64} (hp : pc + 2 = pc') (hd : decode c.code pc = .ok (.lstore k, 2)) (hl : storeLocals Ls k (.long v) = some Ls') (k : own_Goes p e below T (mkF m pc' Ls' st) Q) : own_Goes p e below T (mkF m pc Ls (.long v :: st)) Q := by
  subst hp; exact own_step (fun _ q => XT.lstore X.here hx rfl hd rfl hl q) k
theorem own_lstoreN (X : Stand p l e R s m args below meth c T locs cells slots) (hx : p.tables.exec = Jvm.exec) {k : Fin 4} {v : Int64} (hp : pc + 1 = pc') (hd : decode c.code pc = .ok (.lstore_n k, 1)) (hl : storeLocals Ls k.val (.long v) = some Ls') (k : own_Goes p e below T (mkF m pc' Ls' st) Q) : own_Goes p e below T (mkF m pc Ls (.long v :: st)) Q := by
  subst hp; exact own_step (fun _ q => XT.lstoreN X.here hx rfl hd rfl hl q) k
theorem own_aload (X : Stand p l e R s m args below meth c T locs cells slots) (hx : p.tables.exec = Jvm.exec) {k : Nat} {v : Value} (hp : pc + 2 = pc') (hd : decode c.code pc = .ok (.aload k, 2)) (hl : Ls[k]? = some (.val v)) (hv : v.isRef = true) (k : own_Goes p e below T (mkF m pc' Ls (v :: st)) Q) : own_Goes p e below T (mkF m pc Ls st) Q := by
  subst hp; exact own_step (fun _ q => XS.aload X.here hx rfl hd hl hv q) k
theorem own_aloadN (X : Stand p l e R s m args below meth c T locs cells slots) (hx : p.tables.exec = Jvm.exec) {k : Fin 4} {v : Value} (hp : pc + 1 = pc') (hd : decode c.code pc = .ok (.aload_n k, 1)) (hl : Ls[k.val]? = some (.val v)) (hv : v.isRef = true) (k : own_Goes p e below T (mkF m pc' Ls (v :: st)) Q) : own_Goes p e below T (mkF m pc Ls st) Q := by
  subst hp; exact own_step (fun _ q => XS.aloadN X.here hx rfl hd hl hv q) k
theorem own_astore (X : Stand p l e R s m args below meth c T locs cells slots) (hx : p.tables.exec = Jvm.exec) {k : Nat} {v : Value} (hp : pc + 2 = pc') (hd : decode c.code pc = .ok (.astore k, 2)) (hv : v.isRef = true) (hl : storeLocals Ls k v = some Ls') (k : own_Goes p e below T (mkF m pc' Ls' st) Q) : own_Goes p e below T (mkF m pc Ls (v :: st)) Q := by
  subst hp; exact own_step (fun _ q => XS.astore X.here hx rfl hd rfl hv hl q) k
theorem own_astoreN (X : Stand p l e R s m args below meth c T locs cells slots) (hx : p.tables.exec = Jvm.exec) {k : Fin 4} {v : Value} (hp : pc + 1 = pc') (hd : decode c.code pc = .ok (.astore_n k, 1)) (hv : v.isRef = true) (hl : storeLocals Ls k.val v = some Ls') (k : own_Goes p e below T (mkF m pc' Ls' st) Q) : own_Goes p e below T (mkF m pc Ls (v :: st)) Q := by
  subst hp; exact own_step (fun _ q => XS.astoreN X.here hx rfl hd rfl hv hl q) k
theorem own_iconst (X : Stand p l e R s m args below meth c T locs cells slots) (hx : p.tables.exec = Jvm.exec) {i : Int} {v : Int32} (hp : pc + 1 = pc') (hd : decode c.code pc = .ok (.iconst i, 1)) (hv : Int32.ofInt i = v) (k : own_Goes p e below T (mkF m pc' Ls (.int v :: st)) Q) : own_Goes p e below T (mkF m pc Ls st) Q := by
  subst hp; subst hv; exact own_step (fun _ q => XS.iconst X.here hx rfl hd  q) k
theorem own_bipush (X : Stand p l e R s m args below meth c T locs cells slots) (hx : p.tables.exec = Jvm.exec) {i : Int} {v : Int32} (hp : pc + 2 = pc') (hd : decode c.code pc = .ok (.bipush i, 2)) (hv : (Int8.ofInt i).toInt32 = v) (k : own_Goes p e below T (mkF m pc' Ls (.int v :: st)) Q) : own_Goes p e below T (mkF m pc Ls st) Q := by
  subst hp; subst hv; exact own_step (fun _ q => XS.bipush X.here hx rfl hd  q) k
theorem own_sipush (X : Stand p l e R s m args below meth c T locs cells slots) (hx : p.tables.exec = Jvm.exec) {i : Int} {v : Int32} (hp : pc + 3 = pc') (hd : decode c.code pc = .ok (.sipush i, 3)) (hv : (Int16.ofInt i).toInt32 = v) (k : own_Goes p e below T (mkF m pc' Ls (.int v :: st)) Q) : own_Goes p e below T (mkF m pc Ls st) Q := by
  subst hp; subst hv; exact own_step (fun _ q => XS.sipush X.here hx rfl hd  q) k
theorem own_lconst (X : Stand p l e R s m args below meth c T locs cells slots) (hx : p.tables.exec = Jvm.exec) {i : Fin 2} {v : Int64} (hp : pc + 1 = pc') (hd : decode c.code pc = .ok (.lconst i, 1)) (hv : Int64.ofNat i = v) (k : own_Goes p e below T (mkF m pc' Ls (.long v :: st)) Q) : own_Goes p e below T (mkF m pc Ls st) Q := by
  subst hp; subst hv; exact own_step (fun _ q => XT.lconst X.here hx rfl hd  q) k
theorem own_anull (X : Stand p l e R s m args below meth c T locs cells slots) (hx : p.tables.exec = Jvm.exec)  (hp : pc + 1 = pc') (hd : decode c.code pc = .ok (.aconst_null, 1))  (k : own_Goes p e below T (mkF m pc' Ls (.null :: st)) Q) : own_Goes p e below T (mkF m pc Ls st) Q := by
  subst hp; exact own_step (fun _ q => XS.aconstNull X.here hx rfl hd  q) k
theorem own_iadd (X : Stand p l e R s m args below meth c T locs cells slots) (hx : p.tables.exec = Jvm.exec) {x y v : Int32} (hp : pc + 1 = pc') (hd : decode c.code pc = .ok (.iadd, 1)) (hv : x + y = v) (k : own_Goes p e below T (mkF m pc' Ls (.int v :: st)) Q) : own_Goes p e below T (mkF m pc Ls (.int y :: .int x :: st)) Q := by
  subst hp; subst hv; exact own_step (fun _ q => XS.iadd X.here hx rfl hd rfl q) k
theorem own_isub (X : Stand p l e R s m args below meth c T locs cells slots) (hx : p.tables.exec = Jvm.exec) {x y v : Int32} (hp : pc + 1 = pc') (hd : decode c.code pc = .ok (.isub, 1)) (hv : x - y = v) (k : own_Goes p e below T (mkF m pc' Ls (.int v :: st)) Q) : own_Goes p e below T (mkF m pc Ls (.int y :: .int x :: st)) Q := by
  subst hp; subst hv; exact own_step (fun _ q => XS.isub X.here hx rfl hd rfl q) k
theorem own_imul (X : Stand p l e R s m args below meth c T locs cells slots) (hx : p.tables.exec = Jvm.exec) {x y v : Int32} (hp : pc + 1 = pc') (hd : decode c.code pc = .ok (.imul, 1)) (hv : x * y = v) (k : own_Goes p e below T (mkF m pc' Ls (.int v :: st)) Q) : own_Goes p e below T (mkF m pc Ls (.int y :: .int x :: st)) Q := by
  subst hp; subst hv; exact own_step (fun _ q => XS.imul X.here hx rfl hd rfl q) k
theorem own_iand (X : Stand p l e R s m args below meth c T locs cells slots) (hx : p.tables.exec = Jvm.exec) {x y v : Int32} (hp : pc + 1 = pc') (hd : decode c.code pc = .ok (.iand, 1)) (hv : x &&& y = v) (k : own_Goes p e below T (mkF m pc' Ls (.int v :: st)) Q) : own_Goes p e below T (mkF m pc Ls (.int y :: .int x :: st)) Q := by
  subst hp; subst hv; exact own_step (fun _ q => XS.iand X.here hx rfl hd rfl q) k
theorem own_ior (X : Stand p l e R s m args below meth c T locs cells slots) (hx : p.tables.exec = Jvm.exec) {x y v : Int32} (hp : pc + 1 = pc') (hd : decode c.code pc = .ok (.ior, 1)) (hv : x ||| y = v) (k : own_Goes p e below T (mkF m pc' Ls (.int v :: st)) Q) : own_Goes p e below T (mkF m pc Ls (.int y :: .int x :: st)) Q := by
  subst hp; subst hv; exact own_step (fun _ q => XT.ior X.here hx rfl hd rfl q) k
theorem own_ixor (X : Stand p l e R s m args below meth c T locs cells slots) (hx : p.tables.exec = Jvm.exec) {x y v : Int32} (hp : pc + 1 = pc') (hd : decode c.code pc = .ok (.ixor, 1)) (hv : x ^^^ y = v) (k : own_Goes p e below T (mkF m pc' Ls (.int v :: st)) Q) : own_Goes p e below T (mkF m pc Ls (.int y :: .int x :: st)) Q := by
  subst hp; subst hv; exact own_step (fun _ q => XT.ixor X.here hx rfl hd rfl q) k
theorem own_ishl (X : Stand p l e R s m args below meth c T locs cells slots) (hx : p.tables.exec = Jvm.exec) {x y v : Int32} (hp : pc + 1 = pc') (hd : decode c.code pc = .ok (.ishl, 1)) (hv : x <<< (y &&& 31) = v) (k : own_Goes p e below T (mkF m pc' Ls (.int v :: st)) Q) : own_Goes p e below T (mkF m pc Ls (.int y :: .int x :: st)) Q := by
  subst hp; subst hv; exact own_step (fun _ q => XT.ishl X.here hx rfl hd rfl q) k
theorem own_ishr (X : Stand p l e R s m args below meth c T locs cells slots) (hx : p.tables.exec = Jvm.exec) {x y v : Int32} (hp : pc + 1 = pc') (hd : decode c.code pc = .ok (.ishr, 1)) (hv : x >>> (y &&& 31) = v) (k : own_Goes p e below T (mkF m pc' Ls (.int v :: st)) Q) : own_Goes p e below T (mkF m pc Ls (.int y :: .int x :: st)) Q := by
  subst hp; subst hv; exact own_step (fun _ q => XT.ishr X.here hx rfl hd rfl q) k
theorem own_iushr (X : Stand p l e R s m args below meth c T locs cells slots) (hx : p.tables.exec = Jvm.exec) {x y v : Int32} (hp : pc + 1 = pc') (hd : decode c.code pc = .ok (.iushr, 1)) (hv : XT.ushr x y = v) (k : own_Goes p e below T (mkF m pc' Ls (.int v :: st)) Q) : own_Goes p e below T (mkF m pc Ls (.int y :: .int x :: st)) Q := by
  subst hp; subst hv; exact own_step (fun _ q => XT.iushr X.here hx rfl hd rfl q) k
theorem own_idiv (X : Stand p l e R s m args below meth c T locs cells slots) (hx : p.tables.exec = Jvm.exec) {x y v : Int32} (hp : pc + 1 = pc') (hd : decode c.code pc = .ok (.idiv, 1)) (hy : y ≠ 0) (hv : x / y = v) (k : own_Goes p e below T (mkF m pc' Ls (.int v :: st)) Q) : own_Goes p e below T (mkF m pc Ls (.int y :: .int x :: st)) Q := by
  subst hp; subst hv; exact own_step (fun _ q => XS.idiv X.here hx rfl hd rfl hy q) k
theorem own_irem (X : Stand p l e R s m args below meth c T locs cells slots) (hx : p.tables.exec = Jvm.exec) {x y v : Int32} (hp : pc + 1 = pc') (hd : decode c.code pc = .ok (.irem, 1)) (hy : y ≠ 0) (hv : x % y = v) (k : own_Goes p e below T (mkF m pc' Ls (.int v :: st)) Q) : own_Goes p e below T (mkF m pc Ls (.int y :: .int x :: st)) Q := by
  subst hp; subst hv; exact own_step (fun _ q => iremM X hx rfl hd rfl hy q) k
theorem own_ladd (X : Stand p l e R s m args below meth c T locs cells slots) (hx : p.tables.exec = Jvm.exec) {x y v : Int64} (hp : pc + 1 = pc') (hd : decode c.code pc = .ok (.ladd, 1)) (hv : x + y = v) (k : own_Goes p e below T (mkF m pc' Ls (.long v :: st)) Q) : own_Goes p e below T (mkF m pc Ls (.long y :: .long x :: st)) Q := by
  subst hp; subst hv; exact own_step (fun _ q => XT.ladd X.here hx rfl hd rfl q) k
theorem own_lsub (X : Stand p l e R s m args below meth c T locs cells slots) (hx : p.tables.exec = Jvm.exec) {x y v : Int64} (hp : pc + 1 = pc') (hd : decode c.code pc = .ok (.lsub, 1)) (hv : x - y = v) (k : own_Goes p e below T (mkF m pc' Ls (.long v :: st)) Q) : own_Goes p e below T (mkF m pc Ls (.long y :: .long x :: st)) Q := by
  subst hp; subst hv; exact own_step (fun _ q => XT.lsub X.here hx rfl hd rfl q) k
theorem own_lmul (X : Stand p l e R s m args below meth c T locs cells slots) (hx : p.tables.exec = Jvm.exec) {x y v : Int64} (hp : pc + 1 = pc') (hd : decode c.code pc = .ok (.lmul, 1)) (hv : x * y = v) (k : own_Goes p e below T (mkF m pc' Ls (.long v :: st)) Q) : own_Goes p e below T (mkF m pc Ls (.long y :: .long x :: st)) Q := by
  subst hp; subst hv; exact own_step (fun _ q => XT.lmul X.here hx rfl hd rfl q) k
theorem own_land (X : Stand p l e R s m args below meth c T locs cells slots) (hx : p.tables.exec = Jvm.exec) {x y v : Int64} (hp : pc + 1 = pc') (hd : decode c.code pc = .ok (.land, 1)) (hv : x &&& y = v) (k : own_Goes p e below T (mkF m pc' Ls (.long v :: st)) Q) : own_Goes p e below T (mkF m pc Ls (.long y :: .long x :: st)) Q := by
  subst hp; subst hv; exact own_step (fun _ q => XT.land X.here hx rfl hd rfl q) k
theorem own_lor (X : Stand p l e R s m args below meth c T locs cells slots) (hx : p.tables.exec = Jvm.exec) {x y v : Int64} (hp : pc + 1 = pc') (hd : decode c.code pc = .ok (.lor, 1)) (hv : x ||| y = v) (k : own_Goes p e below T (mkF m pc' Ls (.long v :: st)) Q) : own_Goes p e below T (mkF m pc Ls (.long y :: .long x :: st)) Q := by
  subst hp; subst hv; exact own_step (fun _ q => XT.lor X.here hx rfl hd rfl q) k
theorem own_lxor (X : Stand p l e R s m args below meth c T locs cells slots) (hx : p.tables.exec = Jvm.exec) {x y v : Int64} (hp : pc + 1 = pc') (hd : decode c.code pc = .ok (.lxor, 1)) (hv : x ^^^ y = v) (k : own_Goes p e below T (mkF m pc' Ls (.long v :: st)) Q) : own_Goes p e below T (mkF m pc Ls (.long y :: .long x :: st)) Q := by
  subst hp; subst hv; exact own_step (fun _ q => XT.lxor X.here hx rfl hd rfl q) k
theorem own_ldiv (X : Stand p l e R s m args below meth c T locs cells slots) (hx : p.tables.exec = Jvm.exec) {x y v : Int64} (hp : pc + 1 = pc') (hd : decode c.code pc = .ok (.ldiv, 1)) (hy : y ≠ 0) (hv : x / y = v) (k : own_Goes p e below T (mkF m pc' Ls (.long v :: st)) Q) : own_Goes p e below T (mkF m pc Ls (.long y :: .long x :: st)) Q := by
  subst hp; subst hv; exact own_step (fun _ q => XT.ldiv X.here hx rfl hd rfl hy q) k
theorem own_ineg (X : Stand p l e R s m args below meth c T locs cells slots) (hx : p.tables.exec = Jvm.exec) {x v : Int32} (hp : pc + 1 = pc') (hd : decode c.code pc = .ok (.ineg, 1)) (hv : -x = v) (k : own_Goes p e below T (mkF m pc' Ls (.int v :: st)) Q) : own_Goes p e below T (mkF m pc Ls (.int x :: st)) Q := by
  subst hp; subst hv; exact own_step (fun _ q => XS.ineg X.here hx rfl hd rfl q) k
theorem own_lneg (X : Stand p l e R s m args below meth c T locs cells slots) (hx : p.tables.exec = Jvm.exec) {x v : Int64} (hp : pc + 1 = pc') (hd : decode c.code pc = .ok (.lneg, 1)) (hv : -x = v) (k : own_Goes p e below T (mkF m pc' Ls (.long v :: st)) Q) : own_Goes p e below T (mkF m pc Ls (.long x :: st)) Q := by
  subst hp; subst hv; exact own_step (fun _ q => XT.lneg X.here hx rfl hd rfl q) k
theorem own_i2l (X : Stand p l e R s m args below meth c T locs cells slots) (hx : p.tables.exec = Jvm.exec) {x : Int32} {v : Int64} (hp : pc + 1 = pc') (hd : decode c.code pc = .ok (.i2l, 1)) (hv : x.toInt64 = v) (k : own_Goes p e below T (mkF m pc' Ls (.long v :: st)) Q) : own_Goes p e below T (mkF m pc Ls (.int x :: st)) Q := by
  subst hp; subst hv; exact own_step (fun _ q => XT.i2l X.here hx rfl hd rfl q) k
theorem own_l2i (X : Stand p l e R s m args below meth c T locs cells slots) (hx : p.tables.exec = Jvm.exec) {x : Int64} {v : Int32} (hp : pc + 1 = pc') (hd : decode c.code pc = .ok (.l2i, 1)) (hv : x.toInt32 = v) (k : own_Goes p e below T (mkF m pc' Ls (.int v :: st)) Q) : own_Goes p e below T (mkF m pc Ls (.long x :: st)) Q := by
  subst hp; subst hv; exact own_step (fun _ q => XT.l2i X.here hx rfl hd rfl q) k
theorem own_i2b (X : Stand p l e R s m args below meth c T locs cells slots) (hx : p.tables.exec = Jvm.exec) {x v : Int32} (hp : pc + 1 = pc') (hd : decode c.code pc = .ok (.i2b, 1)) (hv : x.toInt8.toInt32 = v) (k : own_Goes p e below T (mkF m pc' Ls (.int v :: st)) Q) : own_Goes p e below T (mkF m pc Ls (.int x :: st)) Q := by
  subst hp; subst hv; exact own_step (fun _ q => XT.i2b X.here hx rfl hd rfl q) k
theorem own_i2c (X : Stand p l e R s m args below meth c T locs cells slots) (hx : p.tables.exec = Jvm.exec) {x v : Int32} (hp : pc + 1 = pc') (hd : decode c.code pc = .ok (.i2c, 1)) (hv : x.toUInt32.toUInt16.toUInt32.toInt32 = v) (k : own_Goes p e below T (mkF m pc' Ls (.int v :: st)) Q) : own_Goes p e below T (mkF m pc Ls (.int x :: st)) Q := by
  subst hp; subst hv; exact own_step (fun _ q => XT.i2c X.here hx rfl hd rfl q) k
theorem own_i2s (X : Stand p l e R s m args below meth c T locs cells slots) (hx : p.tables.exec = Jvm.exec) {x v : Int32} (hp : pc + 1 = pc') (hd : decode c.code pc = .ok (.i2s, 1)) (hv : x.toInt16.toInt32 = v) (k : own_Goes p e below T (mkF m pc' Ls (.int v :: st)) Q) : own_Goes p e below T (mkF m pc Ls (.int x :: st)) Q := by
  subst hp; subst hv; exact own_step (fun _ q => XT.i2s X.here hx rfl hd rfl q) k
theorem own_lcmp (X : Stand p l e R s m args below meth c T locs cells slots) (hx : p.tables.exec = Jvm.exec) {x y : Int64} (hp : pc + 1 = pc') (hd : decode c.code pc = .ok (.lcmp, 1))  (k : own_Goes p e below T (mkF m pc' Ls (.int (XT.cmpL x y) :: st)) Q) : own_Goes p e below T (mkF m pc Ls (.long y :: .long x :: st)) Q := by
  subst hp; exact own_step (fun _ q => XT.lcmp X.here hx rfl hd rfl q) k
theorem own_iinc (X : Stand p l e R s m args below meth c T locs cells slots) (hx : p.tables.exec = Jvm.exec) {n : Nat} {i : Int} {x v : Int32} (hp : pc + 3 = pc') (hd : decode c.code pc = .ok (.iinc n i, 3)) (hl : Ls[n]? = some (.val (.int x))) (hv : x + Int32.ofInt i = v) (hl' : storeLocals Ls n (.int v) = some Ls') (k : own_Goes p e below T (mkF m pc' Ls' st) Q) : own_Goes p e below T (mkF m pc Ls st) Q := by
  subst hp; subst hv; exact own_step (fun _ q => XS.iinc X.here hx rfl hd hl hl' q) k
theorem own_dup (X : Stand p l e R s m args below meth c T locs cells slots) (hx : p.tables.exec = Jvm.exec) {x : Value} (hp : pc + 1 = pc') (hd : decode c.code pc = .ok (.dup, 1)) (hc : x.category = 1) (k : own_Goes p e below T (mkF m pc' Ls (x :: x :: st)) Q) : own_Goes p e below T (mkF m pc Ls (x :: st)) Q := by
  subst hp; exact own_step (fun _ q => XS.dup X.here hx rfl hd rfl hc q) k
theorem own_pop (X : Stand p l e R s m args below meth c T locs cells slots) (hx : p.tables.exec = Jvm.exec) {x : Value} (hp : pc + 1 = pc') (hd : decode c.code pc = .ok (.pop, 1)) (hc : x.category = 1) (k : own_Goes p e below T (mkF m pc' Ls st) Q) : own_Goes p e below T (mkF m pc Ls (x :: st)) Q := by
  subst hp; exact own_step (fun _ q => XT.pop X.here hx rfl hd rfl hc q) k
theorem own_goto (X : Stand p l e R s m args below meth c T locs cells slots) (hx : p.tables.exec = Jvm.exec) {o : Int} (hd : decode c.code pc = .ok (.goto o, 3)) (ho : 0 ≤ (pc : Int) + o) (hp : ((pc : Int) + o).toNat = pc') (k : own_Goes p e below T (mkF m pc' Ls st) Q) : own_Goes p e below T (mkF m pc Ls st) Q := own_step (fun _ q => XS.goto X.here hx rfl (pc0 := pc) (pc' := pc') rfl hd ho hp q) k
theorem own_ifT (X : Stand p l e R s m args below meth c T locs cells slots) (hx : p.tables.exec = Jvm.exec) {cd : ClassFile.Cond} {x : Int32} {o : Int} (hd : decode c.code pc = .ok (.ifCond cd o, 3)) (hc : ifCond.holds cd x = true) (ho : 0 ≤ (pc : Int) + o) (hp : ((pc : Int) + o).toNat = pc') (k : own_Goes p e below T (mkF m pc' Ls st) Q) : own_Goes p e below T (mkF m pc Ls (.int x :: st)) Q := own_step (fun _ q => XS.ifYes X.here hx rfl (pc0 := pc) (pc' := pc') rfl hd rfl hc ho hp q) k
theorem own_ifF (X : Stand p l e R s m args below meth c T locs cells slots) (hx : p.tables.exec = Jvm.exec) {cd : ClassFile.Cond} {x : Int32} {o : Int} (hp : pc + 3 = pc') (hd : decode c.code pc = .ok (.ifCond cd o, 3)) (hc : ifCond.holds cd x = false) (k : own_Goes p e below T (mkF m pc' Ls st) Q) : own_Goes p e below T (mkF m pc Ls (.int x :: st)) Q := by
  subst hp; exact own_step (fun _ q => XS.ifNo X.here hx rfl hd rfl hc q) k
theorem own_icmpT (X : Stand p l e R s m args below meth c T locs cells slots) (hx : p.tables.exec = Jvm.exec) {cd : ClassFile.Cond} {x y : Int32} {o : Int} (hd : decode c.code pc = .ok (.if_icmp cd o, 3)) (hc : if_icmp.holds cd x y = true) (ho : 0 ≤ (pc : Int) + o) (hp : ((pc : Int) + o).toNat = pc') (k : own_Goes p e below T (mkF m pc' Ls st) Q) : own_Goes p e below T (mkF m pc Ls (.int y :: .int x :: st)) Q := own_step (fun _ q => XS.icmpYes X.here hx rfl (pc0 := pc) (pc' := pc') rfl hd rfl hc ho hp q) k
theorem own_icmpF (X : Stand p l e R s m args below meth c T locs cells slots) (hx : p.tables.exec = Jvm.exec) {cd : ClassFile.Cond} {x y : Int32} {o : Int} (hp : pc + 3 = pc') (hd : decode c.code pc = .ok (.if_icmp cd o, 3)) (hc : if_icmp.holds cd x y = false) (k : own_Goes p e below T (mkF m pc' Ls st) Q) : own_Goes p e below T (mkF m pc Ls (.int y :: .int x :: st)) Q := by
  subst hp; exact own_step (fun _ q => XS.icmpNo X.here hx rfl hd rfl hc q) k
theorem own_acmpT (X : Stand p l e R s m args below meth c T locs cells slots) (hx : p.tables.exec = Jvm.exec) {cd : ClassFile.ACond} {x y : Value} {o : Int} (hd : decode c.code pc = .ok (.if_acmp cd o, 3)) (h1 : x.isRef = true) (h2 : y.isRef = true) (hc : XT.acmp cd x y = true) (ho : 0 ≤ (pc : Int) + o) (hp : ((pc : Int) + o).toNat = pc') (k : own_Goes p e below T (mkF m pc' Ls st) Q) : own_Goes p e below T (mkF m pc Ls (y :: x :: st)) Q := own_step (fun _ q => XT.acmpYes X.here hx rfl (pc0 := pc) (pc' := pc') rfl hd rfl h1 h2 hc ho hp q) k
theorem own_acmpF (X : Stand p l e R s m args below meth c T locs cells slots) (hx : p.tables.exec = Jvm.exec) {cd : ClassFile.ACond} {x y : Value} {o : Int} (hp : pc + 3 = pc') (hd : decode c.code pc = .ok (.if_acmp cd o, 3)) (h1 : x.isRef = true) (h2 : y.isRef = true) (hc : XT.acmp cd x y = false) (k : own_Goes p e below T (mkF m pc' Ls st) Q) : own_Goes p e below T (mkF m pc Ls (y :: x :: st)) Q := by
  subst hp; exact own_step (fun _ q => XT.acmpNo X.here hx rfl hd rfl h1 h2 hc q) k
theorem own_ldc (X : Stand p l e R s m args below meth c T locs cells slots) (hx : p.tables.exec = Jvm.exec) (hZ : Z.Warmed39 s.vm) {own : String} {index : Nat} {v : Int32} (hown : s.vm.findClass own = some m.cls) (w : (Jvm.Cond.constant own index v).before a0 Z = true) (hp : pc + 2 = pc') (hd : decode c.code pc = .ok (.ldc index, 2)) (k : own_Goes p e below T (mkF m pc' Ls (.int v :: st)) Q) : own_Goes p e below T (mkF m pc Ls st) Q := by
  subst hp; exact own_step (fun _ q => X.ldcI hx hown (mvT hZ w) rfl hd q) k
theorem own_ldc2_w (X : Stand p l e R s m args below meth c T locs cells slots) (hx : p.tables.exec = Jvm.exec) (hZ : Z.Warmed39 s.vm) {own : String} {index : Nat} {v : Int64} (hown : s.vm.findClass own = some m.cls) (w : (Jvm.Cond.constantLong own index v).before a0 Z = true) (hp : pc + 3 = pc') (hd : decode c.code pc = .ok (.ldc2_w index, 3)) (k : own_Goes p e below T (mkF m pc' Ls (.long v :: st)) Q) : own_Goes p e below T (mkF m pc Ls st) Q := by
  subst hp; exact own_step (fun _ q => X.ldc2J hx hown (mvT hZ w) rfl hd q) k
theorem own_retW (X : Stand p l e R s m args below meth c T locs cells slots) (hx : p.tables.exec = Jvm.exec) (hlk : meth.locks = false) {w : Option Value} (hv : meth.sig.returnType = none → w = none) {F : JFrame} (run : ∀ fs, (∀ (f : JFrame) (acts : List Action), f.method = m → f.locked = none → f.entered = [] → (doReturn e (T.setTop f) acts w).1 = T.setFrames fs) → Steps p.tables e below (T.setTop F) (T.setFrames fs)) {K : Option Value → Heap → List Loc → Prop} {rc rs : Nat} (hc : cells ≤ rc) (hs : slots ≤ rs) (hQ : K w T.heap locs) : own_Goes p e below T F (own_Ret s K rc rs) := by
  obtain ⟨fs, hr, hrun, hended, hW, hsame⟩ := X.leave (v := w) hv hlk
  exact ⟨_, _, run fs hr, hrun, hended, w, locs, rfl, hQ, ⟨_, rfl⟩, hW, hsame.mono hc hs⟩
theorem own_iret (X : Stand p l e R s m args below meth c T locs cells slots) (hx : p.tables.exec = Jvm.exec) (hlk : meth.locks = false) {z : Int32} (hret : meth.sig.returnType = some .int) (hd : decode c.code pc = .ok (.ireturn, 1)) {K : Option Value → Heap → List Loc → Prop} {rc rs : Nat} (hc : cells ≤ rc) (hs : slots ≤ rs) (hQ : K (some (.int z)) T.heap locs) : own_Goes p e below T (mkF m pc Ls (.int z :: st)) (own_Ret s K rc rs) :=
  own_retW X hx hlk (fun q => by rw [hret] at q; cases q) (fun fs hr => retOut X hx hret rfl (Or.inl ⟨rfl, Or.inl rfl, z, rfl⟩) hd hr) hc hs hQ
theorem own_zret (X : Stand p l e R s m args below meth c T locs cells slots) (hx : p.tables.exec = Jvm.exec) (hlk : meth.locks = false) {z : Int32} {t : FieldType} (hret : meth.sig.returnType = some t) (ht : t = .boolean ∨ t = .byte ∨ t = .char ∨ t = .short) (hd : decode c.code pc = .ok (.ireturn, 1)) {K : Option Value → Heap → List Loc → Prop} {rc rs : Nat} (hc : cells ≤ rc) (hs : slots ≤ rs) (hQ : K (some (.int (nar t z))) T.heap locs) : own_Goes p e below T (mkF m pc Ls (.int z :: st)) (own_Ret s K rc rs) :=
  own_retW X hx hlk (fun q => by rw [hret] at q; cases q) (fun fs hr => retN X hx hret ht hd hr) hc hs hQ
theorem own_lret (X : Stand p l e R s m args below meth c T locs cells slots) (hx : p.tables.exec = Jvm.exec) (hlk : meth.locks = false) {z : Int64} (hret : meth.sig.returnType = some .long) (hd : decode c.code pc = .ok (.lreturn, 1)) {K : Option Value → Heap → List Loc → Prop} {rc rs : Nat} (hc : cells ≤ rc) (hs : slots ≤ rs) (hQ : K (some (.long z)) T.heap locs) : own_Goes p e below T (mkF m pc Ls (.long z :: st)) (own_Ret s K rc rs) :=
  own_retW X hx hlk (fun q => by rw [hret] at q; cases q) (fun fs hr => retOut X hx hret rfl (Or.inr (Or.inl ⟨rfl, rfl, z, rfl⟩)) hd hr) hc hs hQ
theorem own_aret (X : Stand p l e R s m args below meth c T locs cells slots) (hx : p.tables.exec = Jvm.exec) (hlk : meth.locks = false) {z : Value} {t : FieldType} (hret : meth.sig.returnType = some t) (ht : t.isReference = true) (hz : z.isRef = true) (hd : decode c.code pc = .ok (.areturn, 1)) {K : Option Value → Heap → List Loc → Prop} {rc rs : Nat} (hc : cells ≤ rc) (hs : slots ≤ rs) (hQ : K (some z) T.heap locs) : own_Goes p e below T (mkF m pc Ls (z :: st)) (own_Ret s K rc rs) :=
  own_retW X hx hlk (fun q => by rw [hret] at q; cases q) (fun fs hr => retOut X hx hret (by cases t <;> simp [FieldType.isReference] at ht <;> cases z <;> simp [Value.isRef] at hz <;> rfl) (Or.inr (Or.inr (Or.inr (Or.inr ⟨rfl, ht, hz⟩)))) hd hr) hc hs hQ
theorem own_ret (X : Stand p l e R s m args below meth c T locs cells slots) (hx : p.tables.exec = Jvm.exec) (hlk : meth.locks = false) (hret : meth.sig.returnType = none) (hd : decode c.code pc = .ok (.return_, 1)) {K : Option Value → Heap → List Loc → Prop} {rc rs : Nat} (hc : cells ≤ rc) (hs : slots ≤ rs) (hQ : K none T.heap locs) : own_Goes p e below T (mkF m pc Ls []) (own_Ret s K rc rs) :=
  own_retW X hx hlk (fun _ => rfl) (fun fs hr => X.returnOut hx hret hd hr) hc hs hQ
theorem own_dload (X : Stand p l e R s m args below meth c T locs cells slots) (hx : p.tables.exec = Jvm.exec) {k : Nat} {v : UInt64} (hp : pc + 2 = pc') (hd : decode c.code pc = .ok (.dload k, 2)) (hl : Ls[k]? = some (.val (.double v))) (k : own_Goes p e below T (mkF m pc' Ls (.double v :: st)) Q) : own_Goes p e below T (mkF m pc Ls st) Q := by
  subst hp; exact own_step (fun _ q => XS.dload X.here hx rfl hd hl q) k
theorem own_dloadN (X : Stand p l e R s m args below meth c T locs cells slots) (hx : p.tables.exec = Jvm.exec) {k : Fin 4} {v : UInt64} (hp : pc + 1 = pc') (hd : decode c.code pc = .ok (.dload_n k, 1)) (hl : Ls[k.val]? = some (.val (.double v))) (k : own_Goes p e below T (mkF m pc' Ls (.double v :: st)) Q) : own_Goes p e below T (mkF m pc Ls st) Q := by
  subst hp; exact own_step (fun _ q => XS.dloadN X.here hx rfl hd hl q) k
theorem own_dstore (X : Stand p l e R s m args below meth c T locs cells slots) (hx : p.tables.exec = Jvm.exec) {k : Nat} {v : UInt64} (hp : pc + 2 = pc') (hd : decode c.code pc = .ok (.dstore k, 2)) (hl : storeLocals Ls k (.double v) = some Ls') (k : own_Goes p e below T (mkF m pc' Ls' st) Q) : own_Goes p e below T (mkF m pc Ls (.double v :: st)) Q := by
  subst hp; exact own_step (fun _ q => XS.dstore X.here hx rfl hd rfl hl q) k
theorem own_dstoreN (X : Stand p l e R s m args below meth c T locs cells slots) (hx : p.tables.exec = Jvm.exec) {k : Fin 4} {v : UInt64} (hp : pc + 1 = pc') (hd : decode c.code pc = .ok (.dstore_n k, 1)) (hl : storeLocals Ls k.val (.double v) = some Ls') (k : own_Goes p e below T (mkF m pc' Ls' st) Q) : own_Goes p e below T (mkF m pc Ls (.double v :: st)) Q := by
  subst hp; exact own_step (fun _ q => XS.dstoreN X.here hx rfl hd rfl hl q) k
theorem own_dconst0 (X : Stand p l e R s m args below meth c T locs cells slots) (hx : p.tables.exec = Jvm.exec) {v : UInt64} (hp : pc + 1 = pc') (hd : decode c.code pc = .ok (.dconst 0, 1)) (hv : FP.dconst0 = v) (k : own_Goes p e below T (mkF m pc' Ls (.double v :: st)) Q) : own_Goes p e below T (mkF m pc Ls st) Q := by
  subst hp; exact own_step (fun _ q => XS.dconst0 X.here hx rfl hd hv q) k
theorem own_dconst1 (X : Stand p l e R s m args below meth c T locs cells slots) (hx : p.tables.exec = Jvm.exec) {v : UInt64} (hp : pc + 1 = pc') (hd : decode c.code pc = .ok (.dconst 1, 1)) (hv : FP.dconst1 = v) (k : own_Goes p e below T (mkF m pc' Ls (.double v :: st)) Q) : own_Goes p e below T (mkF m pc Ls st) Q := by
  subst hp; exact own_step (fun _ q => XS.dconst1 X.here hx rfl hd hv q) k
theorem own_i2d (X : Stand p l e R s m args below meth c T locs cells slots) (hx : p.tables.exec = Jvm.exec) {x : Int32} {v : UInt64} (hp : pc + 1 = pc') (hd : decode c.code pc = .ok (.i2d, 1)) (hv : FP.i2d x = v) (k : own_Goes p e below T (mkF m pc' Ls (.double v :: st)) Q) : own_Goes p e below T (mkF m pc Ls (.int x :: st)) Q := by
  subst hp; exact own_step (fun _ q => XS.i2dS X.here hx rfl hd rfl hv q) k
theorem own_l2d (X : Stand p l e R s m args below meth c T locs cells slots) (hx : p.tables.exec = Jvm.exec) {x : Int64} {v : UInt64} (hp : pc + 1 = pc') (hd : decode c.code pc = .ok (.l2d, 1)) (hv : FP.l2d x = v) (k : own_Goes p e below T (mkF m pc' Ls (.double v :: st)) Q) : own_Goes p e below T (mkF m pc Ls (.long x :: st)) Q := by
  subst hp; exact own_step (fun _ q => XS.l2dS X.here hx rfl hd rfl hv q) k
theorem own_dneg (X : Stand p l e R s m args below meth c T locs cells slots) (hx : p.tables.exec = Jvm.exec) {x v : UInt64} (hp : pc + 1 = pc') (hd : decode c.code pc = .ok (.dneg, 1)) (hv : FP.dneg x = v) (k : own_Goes p e below T (mkF m pc' Ls (.double v :: st)) Q) : own_Goes p e below T (mkF m pc Ls (.double x :: st)) Q := by
  subst hp; exact own_step (fun _ q => XS.dnegS X.here hx rfl hd rfl hv q) k
theorem own_dcmp (X : Stand p l e R s m args below meth c T locs cells slots) (hx : p.tables.exec = Jvm.exec) {o : CmpOp} {x y : UInt64} {v : Int32} (hp : pc + 1 = pc') (hd : decode c.code pc = .ok (.dcmp o, 1)) (hv : cmpValue (FP.dcmp x y) o = v) (k : own_Goes p e below T (mkF m pc' Ls (.int v :: st)) Q) : own_Goes p e below T (mkF m pc Ls (.double y :: .double x :: st)) Q := by
  subst hp; exact own_step (fun _ q => XS.dcmpS X.here hx rfl hd rfl hv q) k
theorem own_dadd (X : Stand p l e R s m args below meth c T locs cells slots) (hx : p.tables.exec = Jvm.exec) {x y v : UInt64} (hp : pc + 1 = pc') (hd : decode c.code pc = .ok (.dadd, 1)) (hn : Jvm.Free.Fl.NoNaN64 (FP.dadd x y)) (hv : FP.dadd x y = v) (k : own_Goes p e below T (mkF m pc' Ls (.double v :: st)) Q) : own_Goes p e below T (mkF m pc Ls (.double y :: .double x :: st)) Q := by
  subst hp; exact own_step (fun _ q => XS.daddS X.here hx rfl hd rfl hn hv q) k
theorem own_dsub (X : Stand p l e R s m args below meth c T locs cells slots) (hx : p.tables.exec = Jvm.exec) {x y v : UInt64} (hp : pc + 1 = pc') (hd : decode c.code pc = .ok (.dsub, 1)) (hn : Jvm.Free.Fl.NoNaN64 (FP.dsub x y)) (hv : FP.dsub x y = v) (k : own_Goes p e below T (mkF m pc' Ls (.double v :: st)) Q) : own_Goes p e below T (mkF m pc Ls (.double y :: .double x :: st)) Q := by
  subst hp; exact own_step (fun _ q => XS.dsubS X.here hx rfl hd rfl hn hv q) k
theorem own_dmul (X : Stand p l e R s m args below meth c T locs cells slots) (hx : p.tables.exec = Jvm.exec) {x y v : UInt64} (hp : pc + 1 = pc') (hd : decode c.code pc = .ok (.dmul, 1)) (hn : Jvm.Free.Fl.NoNaN64 (FP.dmul x y)) (hv : FP.dmul x y = v) (k : own_Goes p e below T (mkF m pc' Ls (.double v :: st)) Q) : own_Goes p e below T (mkF m pc Ls (.double y :: .double x :: st)) Q := by
  subst hp; exact own_step (fun _ q => XS.dmulS X.here hx rfl hd rfl hn hv q) k
theorem own_ddiv (X : Stand p l e R s m args below meth c T locs cells slots) (hx : p.tables.exec = Jvm.exec) {x y v : UInt64} (hp : pc + 1 = pc') (hd : decode c.code pc = .ok (.ddiv, 1)) (hn : Jvm.Free.Fl.NoNaN64 (FP.ddiv x y)) (hv : FP.ddiv x y = v) (k : own_Goes p e below T (mkF m pc' Ls (.double v :: st)) Q) : own_Goes p e below T (mkF m pc Ls (.double y :: .double x :: st)) Q := by
  subst hp; exact own_step (fun _ q => XS.ddivS X.here hx rfl hd rfl hn hv q) k
theorem own_ldcD (X : Stand p l e R s m args below meth c T locs cells slots) (hx : p.tables.exec = Jvm.exec) (hZ : Z.Warmed39 s.vm) {own : String} {index : Nat} {v : UInt64} (hown : s.vm.findClass own = some m.cls) (w : (Jvm.Cond.constantDouble own index v).before a0 Z = true) (hp : pc + 3 = pc') (hd : decode c.code pc = .ok (.ldc2_w index, 3)) (k : own_Goes p e below T (mkF m pc' Ls (.double v :: st)) Q) : own_Goes p e below T (mkF m pc Ls st) Q := by
  subst hp; exact own_step (fun t q => X.ldc2DoubleC hx hown (mvT hZ w) (g := mkF m pc Ls st) rfl hd t q) k
theorem own_dret (X : Stand p l e R s m args below meth c T locs cells slots) (hx : p.tables.exec = Jvm.exec) (hlk : meth.locks = false) {z : UInt64} (hret : meth.sig.returnType = some .double) (hd : decode c.code pc = .ok (.dreturn, 1)) {K : Option Value → Heap → List Loc → Prop} {rc rs : Nat} (hc : cells ≤ rc) (hs : slots ≤ rs) (hQ : K (some (.double z)) T.heap locs) : own_Goes p e below T (mkF m pc Ls (.double z :: st)) (own_Ret s K rc rs) :=
  own_retW X hx hlk (fun q => by rw [hret] at q; cases q) (fun fs hr => retOut X hx hret rfl (Or.inr (Or.inr (Or.inl ⟨rfl, rfl, z, rfl⟩))) hd hr) hc hs hQ
theorem own_getF (X : Stand p l e R s m args below meth c T locs cells slots) (hx : p.tables.exec = Jvm.exec) (hZ : Z.Warmed39 s.vm) {own R0 O n d host : String} {index : Nat} (hown : s.vm.findClass own = some m.cls) (w : (Jvm.Cond.fieldLink own index R0 n d).before a0 Z = true ∨ (Jvm.Cond.fieldLinkNest own index R0 n d host).before a0 Z = true) (via : Via Z R0 O n d) (eT : T.heap = h) {a : Addr} {v : Value} (F : Fld Z h a O n d v) (hp : pc + 3 = pc') (hd : decode c.code pc = .ok (.getfield index, 3))
    (k : ∀ T', Stand p l e R s m args below meth c T' locs cells slots → T'.heap = h → own_Goes p e below T' (mkF m pc' Ls (v :: st)) Q) : own_Goes p e below T (mkF m pc Ls (.ref a :: st)) Q := by
  subst hp
  obtain ⟨T', X', e', stp⟩ := getF X hx hZ hown w via eT F (g := mkF m pc Ls (.ref a :: st)) rfl rfl hd
  exact own_step stp (k T' X' e')
theorem own_putF (X : Stand p l e R s m args below meth c T locs cells slots) (hx : p.tables.exec = Jvm.exec) (hZ : Z.Warmed39 s.vm) {own R0 O n d host C : String} {index kk : Nat} {ty : FieldType} (hown : s.vm.findClass own = some m.cls) (w : (Jvm.Cond.fieldLink own index R0 n d).before a0 Z = true ∨ (Jvm.Cond.fieldLinkNest own index R0 n d host).before a0 Z = true) (via : Via Z R0 O n d) (eT : T.heap = h) {a : Addr} {v old : Value} (F : Fld Z h a O n d old) (E : Exa Z h a C)
    (L : (Jvm.Cond.lays C O n d).before a0 Z = true ∨ ((Jvm.Cond.laysFinal C O n d).before a0 Z = true ∧ own = O ∧ meth.name = "<init>")) (wi : (Jvm.Cond.instantiable C kk).before a0 Z = true) (hty : parseFieldDescriptor d = some ty) (hn : narrow ty v = v) (hf : fits ty v = true) (hp : pc + 3 = pc') (hd : decode c.code pc = .ok (.putfield index, 3))
    (k : ∀ T' h', Stand p l e R s m args below meth c T' (locs ++ [⟨a, Jvm.RoadKit.slotOf Z O n d⟩]) cells slots → T'.heap = h' → Wr h h' a (Jvm.RoadKit.slotOf Z O n d) v → own_Goes p e below T' (mkF m pc' Ls st) Q) : own_Goes p e below T (mkF m pc Ls (v :: .ref a :: st)) Q := by
  subst hp
  obtain ⟨T', h', X', e', W', stp⟩ := putF X hx hZ hown w via eT F E L wi hty hn hf (g := mkF m pc Ls (v :: .ref a :: st)) rfl rfl hd
  exact own_step stp (k T' h' X' e' W')
theorem own_getS (X : Stand p l e R s m args below meth c T locs cells slots) (hx : p.tables.exec = Jvm.exec) (hZ : Z.Warmed39 s.vm) {own R0 O n d : String} {index : Nat} (hown : s.vm.findClass own = some m.cls) (w : (Jvm.Cond.fieldLink own index R0 n d).before a0 Z = true) (via : Via Z R0 O n d) (eT : T.heap = h) {v : Value} (F : Sta Z h O n d v) (hp : pc + 3 = pc') (hd : decode c.code pc = .ok (.getstatic index, 3))
    (k : ∀ T', Stand p l e R s m args below meth c T' locs cells slots → T'.heap = h → own_Goes p e below T' (mkF m pc' Ls (v :: st)) Q) : own_Goes p e below T (mkF m pc Ls st) Q := by
  subst hp
  obtain ⟨T', X', e', stp⟩ := getS X hx hZ (host := "") hown w via eT F (g := mkF m pc Ls st) rfl hd
  exact own_step stp (k T' X' e')
theorem own_new (X : Stand p l e R s m args below meth c T locs cells slots) (hx : p.tables.exec = Jvm.exec) (hZ : Z.Warmed39 s.vm) {own C : String} {index n : Nat} (hown : s.vm.findClass own = some m.cls) (w : (Jvm.Cond.classLink own index C).before a0 Z = true) (wi : (Jvm.Cond.instantiable C n).before a0 Z = true) (wz : (Jvm.Cond.initialized C).before a0 Z = true) (eT : T.heap = h) (hp : pc + 3 = pc') (hd : decode c.code pc = .ok (.new index, 3)) (hc : cells + 1 ≤ R.cells) (hl : slots + n ≤ R.slots)
    (k : ∀ T' h', Stand p l e R s m args below meth c T' locs (cells + 1) (slots + n) → T'.heap = h' → Ext h h' → Exa Z h' h.size C → (∀ {O nm d : String} {ty : FieldType}, Laid Z a0 C O nm d → parseFieldDescriptor d = some ty → Fld Z h' h.size O nm d (defaultValue ty)) → own_Goes p e below T' (mkF m pc' Ls (.ref h.size :: st)) Q) : own_Goes p e below T (mkF m pc Ls st) Q := by
  subst hp
  obtain ⟨T', h', X', e', E', A', D', -, stp⟩ := newO X hx hZ hown w wi wz eT (g := mkF m pc Ls st) rfl hd hc hl
  exact own_step stp (k T' h' X' e' E' A' D')
theorem own_initO (X : Stand p l e R s m args below meth c T locs cells slots) (hx : p.tables.exec = Jvm.exec) (hZ : Z.Warmed39 s.vm) {own : String} {idx : Nat} (hown : s.vm.findClass own = some m.cls) (w1 : (Jvm.Cond.methodLink own idx Lib.objectInit).before a0 Z = true) (w2 : (Jvm.Cond.instanceMethod Lib.objectInit).before a0 Z = true) (w3 : (Jvm.Cond.code Lib.objectInit ⟨#[0xb1]⟩ 1 none).before a0 Z = true) (eT : T.heap = h) (hsize : Ls.size = c.maxLocals) {a : Addr} (hp : pc + 3 = pc') (hd : decode c.code pc = .ok (.invokespecial idx, 3)) (hf : 1 ≤ R.frames) {W : Nat} (hW : (st.map fun v => v.category).sum ≤ W) (hl : W + 12 ≤ R.locals)
    (k : ∀ T', Stand p l e R s m args below meth c T' locs cells slots → T'.heap = h → own_Goes p e below T' (mkF m pc' Ls st) Q) : own_Goes p e below T (mkF m pc Ls (.ref a :: st)) Q := by
  subst hp
  obtain ⟨T', X', e', stp⟩ := initO X hx hZ hown w1 w2 w3 eT (g := mkF m pc Ls (.ref a :: st)) rfl hsize rfl hd hf (W := W) (by show 2 * 0 + _ ≤ _; omega) hl
  exact own_step stp (k T' X' e')
theorem own_callS (X : Stand p l e R s m args below meth c T locs cells slots) (hx : p.tables.exec = Jvm.exec) (hZ : Z.Warmed39 s.vm) {own : String} {index : Nat} {y : MethodName} {bytes : ByteArray} {maxL : Nat} {rt : Option FieldType} (hown : s.vm.findClass own = some m.cls) (w1 : (Jvm.Cond.methodLink own index y).before a0 Z = true) (w2 : (Jvm.Cond.static y).before a0 Z = true) (w3 : (Jvm.Cond.initialized y.cls).before a0 Z = true) (w4 : (Jvm.Cond.code y bytes maxL rt).before a0 Z = true) (hy : y.cls ≠ "java/lang/invoke/MethodHandle" ∧ y.cls ≠ "java/lang/invoke/VarHandle") {rm : Room} {as' : Array Value} {K : Option Value → Heap → List Loc → Prop} {W : Nat} (hM : MetFree l y (head1 [Jvm.Cond.code y bytes maxL rt] rm) (fun a U => a = as' ∧ Z.Warmed39 U.vm ∧ U.heap = h) (fun _ _ _ _ _ => True) (fun _ U o U' => ∃ v L, o = .returned v ∧ K v U'.heap L ∧ FrameEnd U o U' L rm.cells rm.slots)) (hf : rm.frames + 1 ≤ R.frames) (hl : W + (maxL + 11) + rm.locals ≤ R.locals) (hc : cells + rm.cells ≤ R.cells) (hs : slots + rm.slots ≤ R.slots) (eT : T.heap = h) (hsize : Ls.size = c.maxLocals) {argsL rest : List Value} (has : argsL.toArray = as') (hlen : ∀ sig, parseMethodDescriptor y.desc = some sig → argsL.length = sig.parameters.length) (hst : st = argsL.reverse ++ rest) (hW : (rest.map fun v => v.category).sum ≤ W) (hp : pc + 3 = pc') (hd : decode c.code pc = .ok (.invokestatic index, 3))
    (k : ∀ v T' L, Stand p l e R s m args below meth c T' (locs ++ L) (cells + rm.cells) (slots + rm.slots) → K v T'.heap L → own_Goes p e below T' (mkF m pc' Ls (v.toList ++ rest)) Q) : own_Goes p e below T (mkF m pc Ls st) Q := by
  subst hp
  obtain ⟨v, _, ⟨T', L', k', n'⟩, -, X', ⟨Lc, hQ, l1, y1, z1⟩, stp⟩ := Jvm.LawKit.callS X hx (y := y) hown (mvT hZ w1) (mvT hZ w2) (mvT hZ w3) (mvT hZ w4) hy (backOf (W := W) hM hZ w4 w3 hf hl) (g := mkF m pc Ls st) rfl hsize (argsL := argsL) (rest := rest) hlen hst (by show 2 * 0 + _ ≤ _; omega) hd (fun _ _ => ⟨has, eT, hc, hs⟩)
  dsimp only [Pt.U, Pt.locs, Pt.cells, Pt.slots] at X' l1 y1 z1 stp hQ
  subst l1 y1 z1
  exact own_step stp (k v T' Lc X' hQ)
theorem own_callC (X : Stand p l e R s m args below meth c T locs cells slots) (hx : p.tables.exec = Jvm.exec) (hZ : Z.Warmed39 s.vm) {own : String} {index : Nat} {y : MethodName} {bytes : ByteArray} {maxL : Nat} {a : Addr} (hy1 : y.name = "<init>") (hown : s.vm.findClass own = some m.cls) (w1 : (Jvm.Cond.methodLink own index y).before a0 Z = true) (w2 : (Jvm.Cond.instanceMethod y).before a0 Z = true) (w3 : (Jvm.Cond.initialized y.cls).before a0 Z = true) (w4 : (Jvm.Cond.code y bytes maxL none).before a0 Z = true) (hy : y.cls ≠ "java/lang/invoke/MethodHandle" ∧ y.cls ≠ "java/lang/invoke/VarHandle") {rm : Room} {as' : Array Value} {K : Option Value → Heap → List Loc → Prop} {W : Nat} (hM : MetFree l y (head1 [Jvm.Cond.code y bytes maxL none] rm) (fun a U => a = as' ∧ Z.Warmed39 U.vm ∧ U.heap = h) (fun _ _ _ _ _ => True) (fun _ U o U' => ∃ v L, o = .returned v ∧ K v U'.heap L ∧ FrameEnd U o U' L rm.cells rm.slots)) (hf : rm.frames + 1 ≤ R.frames) (hl : W + (maxL + 11) + rm.locals ≤ R.locals) (hc : cells + rm.cells ≤ R.cells) (hs : slots + rm.slots ≤ R.slots) (eT : T.heap = h) (hsize : Ls.size = c.maxLocals) {argsL rest : List Value} (has : (Value.ref a :: argsL).toArray = as') (hlen : ∀ sig, parseMethodDescriptor y.desc = some sig → argsL.length = sig.parameters.length) (hst : st = argsL.reverse ++ .ref a :: rest) (hW : (rest.map fun v => v.category).sum ≤ W) (hp : pc + 3 = pc') (hd : decode c.code pc = .ok (.invokespecial index, 3))
    (k : ∀ v T' L, Stand p l e R s m args below meth c T' (locs ++ L) (cells + rm.cells) (slots + rm.slots) → K v T'.heap L → own_Goes p e below T' (mkF m pc' Ls (v.toList ++ rest)) Q) : own_Goes p e below T (mkF m pc Ls st) Q := by
  subst hp
  obtain ⟨v, _, ⟨T', L', k', n'⟩, -, X', ⟨Lc, hQ, l1, y1, z1⟩, stp⟩ := X.specialBack hx (y := y) hy1 hown (mvT hZ w1) (mvT hZ w2) (mvT hZ w4) hy (backOf (W := W) hM hZ w4 w3 hf hl) (g := mkF m pc Ls st) rfl hsize (Steps.refl _) (a := a) (argsL := argsL) (rest := rest) hlen hst (by show 2 * 0 + _ ≤ _; omega) hd (fun _ _ => ⟨has, eT, hc, hs⟩)
  dsimp only [Pt.U, Pt.locs, Pt.cells, Pt.slots] at X' l1 y1 z1 stp hQ
  subst l1 y1 z1
  exact own_step (fun _ q => stp.trans q) (k v T' Lc X' hQ)
theorem own_callV (X : Stand p l e R s m args below meth c T locs cells slots) (hx : p.tables.exec = Jvm.exec) (hZ : Z.Warmed39 s.vm) {own C : String} {index : Nat} {y : MethodName} {bytes : ByteArray} {maxL : Nat} {rt : Option FieldType} {a : Addr} (hown : s.vm.findClass own = some m.cls) (w1 : (Jvm.Cond.methodLink own index y).before a0 Z = true) (w2 : (Jvm.Cond.declares y).before a0 Z = true) (w5 : (Jvm.Cond.selects C y y).before a0 Z = true) (w6 : (Jvm.Cond.instanceMethod y).before a0 Z = true) (w3 : (Jvm.Cond.initialized y.cls).before a0 Z = true) (w4 : (Jvm.Cond.code y bytes maxL rt).before a0 Z = true) (E : Exa Z h a C) (hy : y.cls ≠ "java/lang/invoke/MethodHandle" ∧ y.cls ≠ "java/lang/invoke/VarHandle") {rm : Room} {as' : Array Value} {K : Option Value → Heap → List Loc → Prop} {W : Nat} (hM : MetFree l y (head1 [Jvm.Cond.code y bytes maxL rt] rm) (fun a U => a = as' ∧ Z.Warmed39 U.vm ∧ U.heap = h) (fun _ _ _ _ _ => True) (fun _ U o U' => ∃ v L, o = .returned v ∧ K v U'.heap L ∧ FrameEnd U o U' L rm.cells rm.slots)) (hf : rm.frames + 1 ≤ R.frames) (hl : W + (maxL + 11) + rm.locals ≤ R.locals) (hc : cells + rm.cells ≤ R.cells) (hs : slots + rm.slots ≤ R.slots) (eT : T.heap = h) (hsize : Ls.size = c.maxLocals) {argsL rest : List Value} (has : (Value.ref a :: argsL).toArray = as') (hlen : ∀ sig, parseMethodDescriptor y.desc = some sig → argsL.length = sig.parameters.length) (hst : st = argsL.reverse ++ .ref a :: rest) (hW : (rest.map fun v => v.category).sum ≤ W) (hp : pc + 3 = pc') (hd : decode c.code pc = .ok (.invokevirtual index, 3))
    (k : ∀ v T' L, Stand p l e R s m args below meth c T' (locs ++ L) (cells + rm.cells) (slots + rm.slots) → K v T'.heap L → own_Goes p e below T' (mkF m pc' Ls (v.toList ++ rest)) Q) : own_Goes p e below T (mkF m pc Ls st) Q := by
  subst hp
  obtain ⟨cq, kq, qa, qb, qc⟩ := isOf hZ eT E
  obtain ⟨v, _, ⟨T', L', k', n'⟩, -, X', ⟨Lc, hQ, l1, y1, z1⟩, stp⟩ := X.virtualBack hx (y := y) (z := y) hown (mvT hZ w1) (mvT hZ w2) (notFace_of_selects (args := #[]) (mvT hZ w5)) (mvT hZ w5) (mvT hZ w6) hy (backOf (W := W) hM hZ w4 w3 hf hl) qa qc (g := mkF m pc Ls st) rfl hsize (Steps.refl _) (argsL := argsL) (rest := rest) hlen hst (by show 2 * 0 + _ ≤ _; omega) hd (fun _ _ => ⟨has, eT, hc, hs⟩)
  dsimp only [Pt.U, Pt.locs, Pt.cells, Pt.slots] at X' l1 y1 z1 stp hQ
  subst l1 y1 z1
  exact own_step (fun _ q => stp.trans q) (k v T' Lc X' hQ)
theorem own_callP (X : Stand p l e R s m args below meth c T locs cells slots) (hx : p.tables.exec = Jvm.exec) (hZ : Z.Warmed39 s.vm) {own C : String} {index : Nat} {y z z' : MethodName} {bytes : ByteArray} {maxL : Nat} {rt : Option FieldType} {a : Addr} {D : String} (hown : s.vm.findClass own = some m.cls) (w1 : (Jvm.Cond.methodLink own index y).before a0 Z = true) (w6 : (Jvm.Cond.instanceMethod y).before a0 Z = true) (w7 : (Jvm.Cond.privateMethod y).before a0 Z = true) (w5 : (Jvm.Cond.selects C z z').before a0 Z = true) (hcls : z'.cls = y.cls) (w3 : (Jvm.Cond.initialized y.cls).before a0 Z = true) (w4 : (Jvm.Cond.code y bytes maxL rt).before a0 Z = true) (E : Exa Z h a D) (hy : y.cls ≠ "java/lang/invoke/MethodHandle" ∧ y.cls ≠ "java/lang/invoke/VarHandle") {rm : Room} {as' : Array Value} {K : Option Value → Heap → List Loc → Prop} {W : Nat} (hM : MetFree l y (head1 [Jvm.Cond.code y bytes maxL rt] rm) (fun a U => a = as' ∧ Z.Warmed39 U.vm ∧ U.heap = h) (fun _ _ _ _ _ => True) (fun _ U o U' => ∃ v L, o = .returned v ∧ K v U'.heap L ∧ FrameEnd U o U' L rm.cells rm.slots)) (hf : rm.frames + 1 ≤ R.frames) (hl : W + (maxL + 11) + rm.locals ≤ R.locals) (hc : cells + rm.cells ≤ R.cells) (hs : slots + rm.slots ≤ R.slots) (eT : T.heap = h) (hsize : Ls.size = c.maxLocals) {argsL rest : List Value} (has : (Value.ref a :: argsL).toArray = as') (hlen : ∀ sig, parseMethodDescriptor y.desc = some sig → argsL.length = sig.parameters.length) (hst : st = argsL.reverse ++ .ref a :: rest) (hW : (rest.map fun v => v.category).sum ≤ W) (hp : pc + 3 = pc') (hd : decode c.code pc = .ok (.invokevirtual index, 3))
    (k : ∀ v T' L, Stand p l e R s m args below meth c T' (locs ++ L) (cells + rm.cells) (slots + rm.slots) → K v T'.heap L → own_Goes p e below T' (mkF m pc' Ls (v.toList ++ rest)) Q) : own_Goes p e below T (mkF m pc Ls st) Q := by
  subst hp
  have hs5 : (Jvm.Cond.selects C z z').before args s = true := mvT hZ w5
  obtain ⟨c2, r2, m2, -, -, q3, -, kP, hkP, hkPi⟩ := Cond.selects_spec hs5
  have hc2 : s.vm.findClass y.cls = some m2.cls := hcls ▸ findClass_of_methodNamed q3
  have hpriv := Cond.privateMethod_at (mvP hZ w7 (args := #[]))
  have hinst : (Jvm.Cond.instanceMethod y).before args s = true := mvT hZ w6
  have hsel := selects_self_of_private (args := args) hc2 hkP hkPi hpriv hinst hy
  obtain ⟨cq, qc, qc'⟩ := E.cell
  obtain ⟨v, _, ⟨T', L', k', n'⟩, -, X', ⟨Lc, hQ, l1, y1, z1⟩, stp⟩ := X.privateBack hx (y := y) hown (mvT hZ w1) hinst hsel hpriv (mvT hZ w4) hy (backOf (W := W) hM hZ w4 w3 hf hl) (g := mkF m pc Ls st) rfl hsize (Steps.refl _) (a := a) (cell := cq) (by rw [eT]; exact qc) qc' (argsL := argsL) (rest := rest) hlen hst (by show 2 * 0 + _ ≤ _; omega) hd (fun _ _ => ⟨has, eT, hc, hs⟩)
  dsimp only [Pt.U, Pt.locs, Pt.cells, Pt.slots] at X' l1 y1 z1 stp hQ
  subst l1 y1 z1
  exact own_step (fun _ q => stp.trans q) (k v T' Lc X' hQ)
theorem own_in {j : Int32} {k n : Nat} (hj : ¬ j < 0) (hk : j.toNatClampNeg = k) (hn : k < n) {cl : Cell} (hs : cl.slots.size = n) : ¬ (j < 0 ∨ cl.slots.size ≤ j.toNatClampNeg) := by
  rintro (q | q)
  · exact hj q
  · omega
theorem own_Arr.lt {a : Addr} {ty : FieldType} {n : Nat} {f : Nat → Value} (A : own_Arr Z h a ty n f) : a < h.size := by obtain ⟨c, A, -⟩ := A; exact A.lt
theorem own_Arr.ext {a : Addr} {ty : FieldType} {n : Nat} {f : Nat → Value} (E : Ext h h') (A : own_Arr Z h a ty n f) : own_Arr Z h' a ty n f := by obtain ⟨c, A, r⟩ := A; exact ⟨c, A.ext E, r⟩
theorem own_Arr.other {a b : Addr} {ty : FieldType} {n sl : Nat} {v : Value} {f : Nat → Value} (W : Wr h h' a sl v) (A : own_Arr Z h b ty n f) (q : b ≠ a) : own_Arr Z h' b ty n f := by obtain ⟨c, A, r⟩ := A; exact ⟨c, A.other W q, r⟩
theorem own_Arr.keep {a : Addr} {ty : FieldType} {n : Nat} {ws : List Addr} {f : Nat → Value} (K : Keep h h' ws) (A : own_Arr Z h a ty n f) (q : a ∉ ws) : own_Arr Z h' a ty n f := by obtain ⟨c, A, r⟩ := A; exact ⟨c, ⟨K.2.1 a c A.1 q, A.2⟩, r⟩
theorem own_Arr.congr {a : Addr} {ty : FieldType} {n : Nat} {f g : Nat → Value} (A : own_Arr Z h a ty n f) (q : ∀ j, j < n → f j = g j) : own_Arr Z h a ty n g := by
  obtain ⟨c, A, r1, r2, r3⟩ := A
  exact ⟨c, A, r1, r2, fun j hj => by rw [r3 j hj, q j hj]⟩
theorem own_sizWr {a : Addr} {sl n0 : Nat} {v : Value} (W : Wr h h' a sl v) (q : n0 ≤ h.size) : n0 ≤ h'.size := by rw [W.size]; exact q
theorem own_Arr.set {a : Addr} {ty : FieldType} {n k : Nat} {f : Nat → Value} {v : Value} {cl : Cell} (A : Arr Z h a cl ty) (r1 : cl.slots.size = n) (r2 : n < 2 ^ 31) (r3 : ∀ j, j < n → cl.slots[j]? = some (f j)) (hk : k < n) (W : Wr h h' a k v) : own_Arr Z h' a ty n (own_upd f k v) := by
  refine ⟨cl.setSlot k v, Arr.same W A, by rw [sz_set]; exact r1, r2, fun j hj => ?_⟩
  show (cl.slots.setIfInBounds k v)[j]? = _
  rw [Array.getElem?_setIfInBounds]
  by_cases q : k = j
  · subst q; simp [own_upd, r1, hk]
  · have q' : ¬ j = k := fun z => q z.symm
    simp [own_upd, q, q', r3 j hj]
theorem own_newarr (X : Stand p l e R s m args below meth c T locs cells slots) (hx : p.tables.exec = Jvm.exec) (hZ : Z.Warmed39 s.vm) {aty : ArrayType} (w : (Jvm.Cond.arrayClass (newarray.typeOf aty)).before a0 Z = true) (eT : T.heap = h) {n : Int32} (hp : pc + 2 = pc') (hd : decode c.code pc = .ok (.newarray aty, 2)) (hn : ¬ n < 0) {N : Nat} (hN : n.toNatClampNeg = N) {cap : Nat} (hcap : n.toNatClampNeg ≤ cap) (hb : cap * 8 ≤ 536870912) (hc : cells + 1 ≤ R.cells) (hl : slots + cap ≤ R.slots)
    (k : ∀ T' h', Stand p l e R s m args below meth c T' locs (cells + 1) (slots + cap) → T'.heap = h' → Ext h h' → own_Arr Z h' h.size (newarray.typeOf aty) N (fun _ => defaultValue (newarray.typeOf aty)) → own_Goes p e below T' (mkF m pc' Ls (.ref h.size :: st)) Q) : own_Goes p e below T (mkF m pc Ls (.int n :: st)) Q := by
  subst hp
  obtain ⟨T', h', cA, X', e', E', A', stp⟩ := newP X hx hZ w eT (g := mkF m pc Ls (.int n :: st)) rfl hd rfl hn hcap hb hc hl
  refine own_step stp (k T' h' X' e' E' ⟨_, A', by rw [sz_new, hN], by rw [← hN]; exact (back32 hn).2, fun j hj => ?_⟩)
  simp [newA, hN, hj]
theorem own_stI (X : Stand p l e R s m args below meth c T locs cells slots) (hx : p.tables.exec = Jvm.exec) (hZ : Z.Warmed39 s.vm) (eT : T.heap = h) {a : Addr} {n k : Nat} {f : Nat → Value} (A : own_Arr Z h a .int n f) {j : Int32} {x : Int32} (hj : ¬ j < 0) (hk : j.toNatClampNeg = k) (hn : k < n)  (hp : pc + 1 = pc') (hd : decode c.code pc = .ok (.iastore, 1))
    (q : ∀ T' h', Stand p l e R s m args below meth c T' (locs ++ [⟨a, k⟩]) cells slots → T'.heap = h' → Wr h h' a k (.int x) → own_Arr Z h' a .int n (own_upd f k (.int x)) → own_Goes p e below T' (mkF m pc' Ls st) Q) : own_Goes p e below T (mkF m pc Ls (.int x :: .int j :: .ref a :: st)) Q := by
  subst hp
  obtain ⟨cl, A, r1, r2, r3⟩ := A
  obtain ⟨T', h', X', e', W', stp⟩ := stI X hx hZ eT A (own_in hj hk hn r1) (g := mkF m pc Ls (.int x :: .int j :: .ref a :: st)) rfl rfl hd
  subst hk
  exact own_step stp (q T' h' X' e' W' (own_Arr.set A r1 r2 r3 hn W'))
theorem own_stJ (X : Stand p l e R s m args below meth c T locs cells slots) (hx : p.tables.exec = Jvm.exec) (hZ : Z.Warmed39 s.vm) (eT : T.heap = h) {a : Addr} {n k : Nat} {f : Nat → Value} (A : own_Arr Z h a .long n f) {j : Int32} {x : Int64} (hj : ¬ j < 0) (hk : j.toNatClampNeg = k) (hn : k < n)  (hp : pc + 1 = pc') (hd : decode c.code pc = .ok (.lastore, 1))
    (q : ∀ T' h', Stand p l e R s m args below meth c T' (locs ++ [⟨a, k⟩]) cells slots → T'.heap = h' → Wr h h' a k (.long x) → own_Arr Z h' a .long n (own_upd f k (.long x)) → own_Goes p e below T' (mkF m pc' Ls st) Q) : own_Goes p e below T (mkF m pc Ls (.long x :: .int j :: .ref a :: st)) Q := by
  subst hp
  obtain ⟨cl, A, r1, r2, r3⟩ := A
  obtain ⟨T', h', X', e', W', stp⟩ := stJ X hx hZ eT A (own_in hj hk hn r1) (g := mkF m pc Ls (.long x :: .int j :: .ref a :: st)) rfl rfl hd
  subst hk
  exact own_step stp (q T' h' X' e' W' (own_Arr.set A r1 r2 r3 hn W'))
theorem own_stB (X : Stand p l e R s m args below meth c T locs cells slots) (hx : p.tables.exec = Jvm.exec) (hZ : Z.Warmed39 s.vm) (eT : T.heap = h) {a : Addr} {n k : Nat} {f : Nat → Value} (A : own_Arr Z h a .byte n f) {j : Int32} {x y : Int32} (hj : ¬ j < 0) (hk : j.toNatClampNeg = k) (hn : k < n) (hv : nar .byte x = y) (hp : pc + 1 = pc') (hd : decode c.code pc = .ok (.bastore, 1))
    (q : ∀ T' h', Stand p l e R s m args below meth c T' (locs ++ [⟨a, k⟩]) cells slots → T'.heap = h' → Wr h h' a k (.int y) → own_Arr Z h' a .byte n (own_upd f k (.int y)) → own_Goes p e below T' (mkF m pc' Ls st) Q) : own_Goes p e below T (mkF m pc Ls (.int x :: .int j :: .ref a :: st)) Q := by
  subst hp; subst hv
  obtain ⟨cl, A, r1, r2, r3⟩ := A
  obtain ⟨T', h', X', e', W', stp⟩ := stB X hx hZ eT A (own_in hj hk hn r1) (g := mkF m pc Ls (.int x :: .int j :: .ref a :: st)) rfl rfl hd
  subst hk
  exact own_step stp (q T' h' X' e' W' (own_Arr.set A r1 r2 r3 hn W'))
theorem own_stC (X : Stand p l e R s m args below meth c T locs cells slots) (hx : p.tables.exec = Jvm.exec) (hZ : Z.Warmed39 s.vm) (eT : T.heap = h) {a : Addr} {n k : Nat} {f : Nat → Value} (A : own_Arr Z h a .char n f) {j : Int32} {x y : Int32} (hj : ¬ j < 0) (hk : j.toNatClampNeg = k) (hn : k < n) (hv : nar .char x = y) (hp : pc + 1 = pc') (hd : decode c.code pc = .ok (.castore, 1))
    (q : ∀ T' h', Stand p l e R s m args below meth c T' (locs ++ [⟨a, k⟩]) cells slots → T'.heap = h' → Wr h h' a k (.int y) → own_Arr Z h' a .char n (own_upd f k (.int y)) → own_Goes p e below T' (mkF m pc' Ls st) Q) : own_Goes p e below T (mkF m pc Ls (.int x :: .int j :: .ref a :: st)) Q := by
  subst hp; subst hv
  obtain ⟨cl, A, r1, r2, r3⟩ := A
  obtain ⟨T', h', X', e', W', stp⟩ := stC X hx hZ eT A (own_in hj hk hn r1) (g := mkF m pc Ls (.int x :: .int j :: .ref a :: st)) rfl rfl hd
  subst hk
  exact own_step stp (q T' h' X' e' W' (own_Arr.set A r1 r2 r3 hn W'))
theorem own_ldI (X : Stand p l e R s m args below meth c T locs cells slots) (hx : p.tables.exec = Jvm.exec) (hZ : Z.Warmed39 s.vm) (eT : T.heap = h) {a : Addr} {n k : Nat} {f : Nat → Value} (A : own_Arr Z h a .int n f) {j : Int32} (hj : ¬ j < 0) (hk : j.toNatClampNeg = k) (hn : k < n) {v : Value} (hv : f k = v) (hp : pc + 1 = pc') (hd : decode c.code pc = .ok (.iaload, 1)) (q : own_Goes p e below T (mkF m pc' Ls (v :: st)) Q) : own_Goes p e below T (mkF m pc Ls (.int j :: .ref a :: st)) Q := by
  subst hp
  obtain ⟨cl, A, r1, r2, r3⟩ := A
  exact own_step (fun t z => X.iaload hx (j := j) (v := v) (by rw [eT]; exact A.1) (State.isArrayOf_alike hZ.alike A.2.1) A.2.2 (own_in hj hk hn r1) (by rw [hk, r3 k hn, hv]) (g := mkF m pc Ls (.int j :: .ref a :: st)) rfl rfl hd t z) q
theorem own_ldJ (X : Stand p l e R s m args below meth c T locs cells slots) (hx : p.tables.exec = Jvm.exec) (hZ : Z.Warmed39 s.vm) (eT : T.heap = h) {a : Addr} {n k : Nat} {f : Nat → Value} (A : own_Arr Z h a .long n f) {j : Int32} (hj : ¬ j < 0) (hk : j.toNatClampNeg = k) (hn : k < n) {v : Value} (hv : f k = v) (hp : pc + 1 = pc') (hd : decode c.code pc = .ok (.laload, 1)) (q : own_Goes p e below T (mkF m pc' Ls (v :: st)) Q) : own_Goes p e below T (mkF m pc Ls (.int j :: .ref a :: st)) Q := by
  subst hp
  obtain ⟨cl, A, r1, r2, r3⟩ := A
  exact own_step (fun t z => X.laload hx (j := j) (v := v) (by rw [eT]; exact A.1) (State.isArrayOf_alike hZ.alike A.2.1) A.2.2 (own_in hj hk hn r1) (by rw [hk, r3 k hn, hv]) (g := mkF m pc Ls (.int j :: .ref a :: st)) rfl rfl hd t z) q
theorem own_ldB (X : Stand p l e R s m args below meth c T locs cells slots) (hx : p.tables.exec = Jvm.exec) (hZ : Z.Warmed39 s.vm) (eT : T.heap = h) {a : Addr} {n k : Nat} {f : Nat → Value} (A : own_Arr Z h a .byte n f) {j : Int32} (hj : ¬ j < 0) (hk : j.toNatClampNeg = k) (hn : k < n) {v : Value} (hv : f k = v) (hp : pc + 1 = pc') (hd : decode c.code pc = .ok (.baload, 1)) (q : own_Goes p e below T (mkF m pc' Ls (v :: st)) Q) : own_Goes p e below T (mkF m pc Ls (.int j :: .ref a :: st)) Q := by
  subst hp
  obtain ⟨cl, A, r1, r2, r3⟩ := A
  exact own_step (fun t z => X.baloadBytes hx (j := j) (v := v) (by rw [eT]; exact A.1) (State.isArrayOf_alike hZ.alike A.2.1) A.2.2 (own_in hj hk hn r1) (by rw [hk, r3 k hn, hv]) (g := mkF m pc Ls (.int j :: .ref a :: st)) rfl rfl hd t z) q
theorem own_ldC (X : Stand p l e R s m args below meth c T locs cells slots) (hx : p.tables.exec = Jvm.exec) (hZ : Z.Warmed39 s.vm) (eT : T.heap = h) {a : Addr} {n k : Nat} {f : Nat → Value} (A : own_Arr Z h a .char n f) {j : Int32} (hj : ¬ j < 0) (hk : j.toNatClampNeg = k) (hn : k < n) {v : Value} (hv : f k = v) (hp : pc + 1 = pc') (hd : decode c.code pc = .ok (.caload, 1)) (q : own_Goes p e below T (mkF m pc' Ls (v :: st)) Q) : own_Goes p e below T (mkF m pc Ls (.int j :: .ref a :: st)) Q := by
  subst hp
  obtain ⟨cl, A, r1, r2, r3⟩ := A
  exact own_step (fun t z => X.caload hx (j := j) (v := v) (by rw [eT]; exact A.1) (State.isArrayOf_alike hZ.alike A.2.1) A.2.2 (own_in hj hk hn r1) (by rw [hk, r3 k hn, hv]) (g := mkF m pc Ls (.int j :: .ref a :: st)) rfl rfl hd t z) q
theorem own_len (X : Stand p l e R s m args below meth c T locs cells slots) (hx : p.tables.exec = Jvm.exec) (hZ : Z.Warmed39 s.vm) (eT : T.heap = h) {a : Addr} {ty : FieldType} {n : Nat} {f : Nat → Value} (A : own_Arr Z h a ty n f) {v : Int32} (hv : n.toInt32 = v) (hp : pc + 1 = pc') (hd : decode c.code pc = .ok (.arraylength, 1)) (q : own_Goes p e below T (mkF m pc' Ls (.int v :: st)) Q) : own_Goes p e below T (mkF m pc Ls (.ref a :: st)) Q := by
  subst hp; subst hv
  obtain ⟨cl, A, r1, r2, r3⟩ := A
  subst r1
  exact own_step (fun t z => X.arraylength hx (cell := cl) (by rw [eT]; exact A.1) (State.isArrayOf_alike hZ.alike A.2.1) (g := mkF m pc Ls (.ref a :: st)) rfl rfl hd t z) q
theorem own_instY (X : Stand p l e R s m args below meth c T locs cells slots) (hx : p.tables.exec = Jvm.exec) (hZ : Z.Warmed39 s.vm) {own K : String} {index : Nat} (hown : s.vm.findClass own = some m.cls) (w : (Jvm.Cond.classLink own index K).before a0 Z = true) (eT : T.heap = h) {a : Addr} (F : Ins Z h a K true) (hp : pc + 3 = pc') (hd : decode c.code pc = .ok (.instanceof index, 3))
    (k : ∀ T', Stand p l e R s m args below meth c T' locs cells slots → T'.heap = h → own_Goes p e below T' (mkF m pc' Ls (.int 1 :: st)) Q) : own_Goes p e below T (mkF m pc Ls (.ref a :: st)) Q := by
  subst hp
  obtain ⟨T', X', e', stp⟩ := instY X hx hZ hown w eT F (g := mkF m pc Ls (.ref a :: st)) rfl rfl hd
  exact own_step stp (k T' X' e')
theorem own_castY (X : Stand p l e R s m args below meth c T locs cells slots) (hx : p.tables.exec = Jvm.exec) (hZ : Z.Warmed39 s.vm) {own K : String} {index : Nat} (hown : s.vm.findClass own = some m.cls) (w : (Jvm.Cond.classLink own index K).before a0 Z = true) (eT : T.heap = h) {a : Addr} (F : Ins Z h a K true) (hp : pc + 3 = pc') (hd : decode c.code pc = .ok (.checkcast index, 3))
    (k : ∀ T', Stand p l e R s m args below meth c T' locs cells slots → T'.heap = h → own_Goes p e below T' (mkF m pc' Ls (.ref a :: st)) Q) : own_Goes p e below T (mkF m pc Ls (.ref a :: st)) Q := by
  subst hp
  obtain ⟨T', X', e', stp⟩ := castY X hx hZ hown w eT F (g := mkF m pc Ls (.ref a :: st)) rfl rfl hd
  exact own_step stp (k T' X' e')
theorem own_instNo (X : Stand p l e R s m args below meth c T locs cells slots) (hx : p.tables.exec = Jvm.exec) (hZ : Z.Warmed39 s.vm) {own K C : String} {index : Nat} (hown : s.vm.findClass own = some m.cls) (w : (Jvm.Cond.classLink own index K).before a0 Z = true) (eT : T.heap = h) {a : Addr} (E : Exa Z h a C) (F : ∃ c t, Z.vm.findClass C = some c ∧ Z.vm.findClass K = some t ∧ Z.vm.assignable c t = false) (hp : pc + 3 = pc') (hd : decode c.code pc = .ok (.instanceof index, 3))
    (k : ∀ T', Stand p l e R s m args below meth c T' locs cells slots → T'.heap = h → own_Goes p e below T' (mkF m pc' Ls (.int 0 :: st)) Q) : own_Goes p e below T (mkF m pc Ls (.ref a :: st)) Q := by
  subst hp
  obtain ⟨T', X', e', stp⟩ := instNo X hx hZ hown w eT E F (g := mkF m pc Ls (.ref a :: st)) rfl rfl hd
  exact own_step stp (k T' X' e')
theorem own_instNull (X : Stand p l e R s m args below meth c T locs cells slots) (hx : p.tables.exec = Jvm.exec) {index : Nat} (hp : pc + 3 = pc') (hd : decode c.code pc = .ok (.instanceof index, 3)) (k : own_Goes p e below T (mkF m pc' Ls (.int 0 :: st)) Q) : own_Goes p e below T (mkF m pc Ls (.null :: st)) Q := by
  subst hp; exact own_step (fun t q => X.instanceofNull hx (g := mkF m pc Ls (.null :: st)) rfl rfl hd t q) k
theorem own_fitR {v : Value} {C : String} (hv : v.isRef = true) : fits (.object C) v = true := by cases v <;> simp_all [fits, Value.isRef]
end Own
/-! 2. THE BODIES -/
theorem ef_rm_item5 (m : MethodId) (a1 : Addr) (a2 : Addr) (p3 : Int32) (q4 : Int64) (q5 : Int64) (p6 : Int32) : entryFrame m #[(.ref a1), (.ref a2), (.int p3), (.long q4), (.long q5), (.int p6)] 8 = mkF m 0 #[.val (.ref a1), .val (.ref a2), .val (.int p3), .val (.long q4), .second, .val (.long q5), .second, .val (.int p6)] [] := by first | (simp [entryFrame, mkF, argsToLocals, Value.category]; done) | rfl
def K_rm_item5  (Z : State) (h0 : Heap) (n0 : Nat) (a1 : Addr) (a2 : Addr) (p3 : Int32) (q4 : Int64) (q5 : Int64) (p6 : Int32) (v : Option Value) (h : Heap) (L : List Loc) : Prop := v = none ∧ Fr n0 L ∧ Keep h0 h [a1] ∧ Exa Z h a1 "com/example/mayfly/mayfly/store/Item" ∧ Fld Z h a1 "com/example/mayfly/mayfly/store/Item" "value" "[B" (.ref a2) ∧ Fld Z h a1 "com/example/mayfly/mayfly/store/Item" "flags" "I" (.int p3) ∧ Fld Z h a1 "com/example/mayfly/mayfly/store/Item" "deadline" "J" (.long q4) ∧ Fld Z h a1 "com/example/mayfly/mayfly/store/Item" "cas" "J" (.long q5) ∧ Fld Z h a1 "com/example/mayfly/mayfly/store/Item" "read" "Z" (.int p6)
theorem d_prog_15_method_2_code_0 : decode prog_15_method_2_code 0 = .ok (.aload_n 0, 1) := by decide +kernel
theorem d_prog_15_method_2_code_1 : decode prog_15_method_2_code 1 = .ok (.invokespecial 7, 3) := by decide +kernel
theorem d_prog_15_method_2_code_4 : decode prog_15_method_2_code 4 = .ok (.aload_n 0, 1) := by decide +kernel
theorem d_prog_15_method_2_code_5 : decode prog_15_method_2_code 5 = .ok (.aload_n 1, 1) := by decide +kernel
theorem d_prog_15_method_2_code_6 : decode prog_15_method_2_code 6 = .ok (.putfield 12, 3) := by decide +kernel
theorem d_prog_15_method_2_code_9 : decode prog_15_method_2_code 9 = .ok (.aload_n 0, 1) := by decide +kernel
theorem d_prog_15_method_2_code_10 : decode prog_15_method_2_code 10 = .ok (.iload_n 2, 1) := by decide +kernel
theorem d_prog_15_method_2_code_11 : decode prog_15_method_2_code 11 = .ok (.putfield 16, 3) := by decide +kernel
theorem d_prog_15_method_2_code_14 : decode prog_15_method_2_code 14 = .ok (.aload_n 0, 1) := by decide +kernel
theorem d_prog_15_method_2_code_15 : decode prog_15_method_2_code 15 = .ok (.lload_n 3, 1) := by decide +kernel
theorem d_prog_15_method_2_code_16 : decode prog_15_method_2_code 16 = .ok (.putfield 20, 3) := by decide +kernel
theorem d_prog_15_method_2_code_19 : decode prog_15_method_2_code 19 = .ok (.aload_n 0, 1) := by decide +kernel
theorem d_prog_15_method_2_code_20 : decode prog_15_method_2_code 20 = .ok (.lload 5, 2) := by decide +kernel
theorem d_prog_15_method_2_code_22 : decode prog_15_method_2_code 22 = .ok (.putfield 24, 3) := by decide +kernel
theorem d_prog_15_method_2_code_25 : decode prog_15_method_2_code 25 = .ok (.aload_n 0, 1) := by decide +kernel
theorem d_prog_15_method_2_code_26 : decode prog_15_method_2_code 26 = .ok (.iload 7, 2) := by decide +kernel
theorem d_prog_15_method_2_code_28 : decode prog_15_method_2_code 28 = .ok (.putfield 27, 3) := by decide +kernel
theorem d_prog_15_method_2_code_31 : decode prog_15_method_2_code 31 = .ok (.return_, 1) := by decide +kernel
theorem pn_com_example_mayfly_mayfly_store_Item : plainName "com/example/mayfly/mayfly/store/Item" = true := by first | (simp [plainName, overriddenIn]; done) | decide +kernel
set_option maxRecDepth 65536 in
set_option maxHeartbeats 40000000 in
theorem rm_item5 (l : Launch) (Z : State) (a0 : Array Value) (hw : ∀ d ∈ tables_1, d.before a0 Z = true) (ws : List Jvm.Cond)  (a1 : Addr) (a2 : Addr) (p3 : Int32) (q4 : Int64) (q5 : Int64) (p6 : Int32) (h0 : Heap) (n0 : Nat) (Z0 : n0 ≤ h0.size) (I0 : Exa Z h0 a1 "com/example/mayfly/mayfly/store/Item") (I1 : Fld Z h0 a1 "com/example/mayfly/mayfly/store/Item" "value" "[B" .null) (I2 : Fld Z h0 a1 "com/example/mayfly/mayfly/store/Item" "flags" "I" (.int (0 : Int32))) (I3 : Fld Z h0 a1 "com/example/mayfly/mayfly/store/Item" "deadline" "J" (.long (0 : Int64))) (I4 : Fld Z h0 a1 "com/example/mayfly/mayfly/store/Item" "cas" "J" (.long (0 : Int64))) (I5 : Fld Z h0 a1 "com/example/mayfly/mayfly/store/Item" "read" "Z" (.int (0 : Int32))) (ge_a1 : n0 ≤ a1) (hz : p6 = (0 : Int32)) :
    MetFree l (⟨"com/example/mayfly/mayfly/store/Item", "<init>", "([BIJJZ)V"⟩ : MethodName) (head1 (Jvm.Cond.code (⟨"com/example/mayfly/mayfly/store/Item", "<init>", "([BIJJZ)V"⟩ : MethodName) prog_15_method_2_code 8 none :: ws) ({ frames := 1, cells := 0, slots := 0, locals := 12 } : Room)) (fun a U => a = #[(.ref a1), (.ref a2), (.int p3), (.long q4), (.long q5), (.int p6)] ∧ Z.Warmed39 U.vm ∧ U.heap = h0) (fun _ _ _ _ _ => True) (fun _ U o U' => ∃ v L, o = .returned v ∧ (K_rm_item5  Z h0 n0 a1 a2 p3 q4 q5 p6) v U'.heap L ∧ FrameEnd U o U' L ({ frames := 1, cells := 0, slots := 0, locals := 12 } : Room).cells ({ frames := 1, cells := 0, slots := 0, locals := 12 } : Room).slots) := by
  refine own_body (plainFor_of_name pn_com_example_mayfly_mayfly_store_Item) ?_
  intro p e s m below meth c s₁ hx hby hml hown hnm hret hlk hZ X0 e0
  have hown : s.vm.findClass "com/example/mayfly/mayfly/store/Item" = some m.cls := hown
  have N0 := Fr.nil n0
  rw [ef_rm_item5 m a1 a2 p3 q4 q5 p6]
  have K0 := Keep.refl h0 [a1]
  refine own_aloadN X0 hx (pc' := 1) rfl (hb hby d_prog_15_method_2_code_0) rfl rfl ?_
  refine own_initO X0 hx hZ hown (hw _ (List.mem_of_getElem? (i := 10) rfl)) (hw _ (List.mem_of_getElem? (i := 11) rfl)) (hw _ (List.mem_of_getElem? (i := 12) rfl)) e0 (by rw [hml]; rfl) (pc' := 4) rfl (hb hby d_prog_15_method_2_code_1) (by decide) (W := 0) (Nat.le_of_eq rfl) (by decide) ?_
  intro T1 X1 e1
  refine own_aloadN X1 hx (pc' := 5) rfl (hb hby d_prog_15_method_2_code_4) rfl rfl ?_
  refine own_aloadN X1 hx (pc' := 6) rfl (hb hby d_prog_15_method_2_code_5) rfl rfl ?_
  refine own_putF X1 hx hZ hown (host := "") (Or.inl (hw _ (List.mem_of_getElem? (i := 13) rfl))) Via.refl e1 I1 I0 (Or.inr ⟨(hw _ (List.mem_of_getElem? (i := 14) rfl)), rfl, hnm⟩) (hw _ (List.mem_of_getElem? (i := 2) rfl)) (ty := (.array .byte)) (by decide) rfl rfl (pc' := 9) rfl (hb hby d_prog_15_method_2_code_6) ?_
  intro T2 h2 X2 e2 W2
  have F3 := Fld.same W2 I1
  have S4 := own_sizWr W2 Z0
  have E5 := Exa.wr W2 I0
  have F7 := Fld.other W2 I2 (Or.inr (slot_ne (Or.inr (hw _ (List.mem_of_getElem? (i := 16) rfl))) (Or.inr (hw _ (List.mem_of_getElem? (i := 14) rfl))) (by decide) (t := .int) (t' := (.array .byte)) (by decide) (by decide)))
  have F8 := Fld.other W2 I3 (Or.inr (slot_ne (Or.inr (hw _ (List.mem_of_getElem? (i := 18) rfl))) (Or.inr (hw _ (List.mem_of_getElem? (i := 14) rfl))) (by decide) (t := .long) (t' := (.array .byte)) (by decide) (by decide)))
  have F9 := Fld.other W2 I4 (Or.inr (slot_ne (Or.inr (hw _ (List.mem_of_getElem? (i := 20) rfl))) (Or.inr (hw _ (List.mem_of_getElem? (i := 14) rfl))) (by decide) (t := .long) (t' := (.array .byte)) (by decide) (by decide)))
  have F10 := Fld.other W2 I5 (Or.inr (slot_ne (Or.inl (hw _ (List.mem_of_getElem? (i := 22) rfl))) (Or.inr (hw _ (List.mem_of_getElem? (i := 14) rfl))) (by decide) (t := .boolean) (t' := (.array .byte)) (by decide) (by decide)))
  have N2 := Fr.snoc X2 N0 ge_a1
  have K2 := Keep.wr K0 W2 (Or.inl (by simp))
  refine own_aloadN X2 hx (pc' := 10) rfl (hb hby d_prog_15_method_2_code_9) rfl rfl ?_
  refine own_iloadN X2 hx (pc' := 11) rfl (hb hby d_prog_15_method_2_code_10) rfl ?_
  refine own_putF X2 hx hZ hown (host := "") (Or.inl (hw _ (List.mem_of_getElem? (i := 15) rfl))) Via.refl e2 F7 E5 (Or.inr ⟨(hw _ (List.mem_of_getElem? (i := 16) rfl)), rfl, hnm⟩) (hw _ (List.mem_of_getElem? (i := 2) rfl)) (ty := .int) (by decide) rfl rfl (pc' := 14) rfl (hb hby d_prog_15_method_2_code_11) ?_
  intro T11 h11 X11 e11 W11
  have F12 := Fld.same W11 F7
  have S13 := own_sizWr W11 S4
  have E14 := Exa.wr W11 E5
  have F16 := Fld.other W11 F8 (Or.inr (slot_ne (Or.inr (hw _ (List.mem_of_getElem? (i := 18) rfl))) (Or.inr (hw _ (List.mem_of_getElem? (i := 16) rfl))) (by decide) (t := .long) (t' := .int) (by decide) (by decide)))
  have F17 := Fld.other W11 F9 (Or.inr (slot_ne (Or.inr (hw _ (List.mem_of_getElem? (i := 20) rfl))) (Or.inr (hw _ (List.mem_of_getElem? (i := 16) rfl))) (by decide) (t := .long) (t' := .int) (by decide) (by decide)))
  have F18 := Fld.other W11 F10 (Or.inr (slot_ne (Or.inl (hw _ (List.mem_of_getElem? (i := 22) rfl))) (Or.inr (hw _ (List.mem_of_getElem? (i := 16) rfl))) (by decide) (t := .boolean) (t' := .int) (by decide) (by decide)))
  have F19 := Fld.other W11 F3 (Or.inr (slot_ne (Or.inr (hw _ (List.mem_of_getElem? (i := 14) rfl))) (Or.inr (hw _ (List.mem_of_getElem? (i := 16) rfl))) (by decide) (t := (.array .byte)) (t' := .int) (by decide) (by decide)))
  have N11 := Fr.snoc X11 N2 ge_a1
  have K11 := Keep.wr K2 W11 (Or.inl (by simp))
  refine own_aloadN X11 hx (pc' := 15) rfl (hb hby d_prog_15_method_2_code_14) rfl rfl ?_
  refine own_lloadN X11 hx (pc' := 16) rfl (hb hby d_prog_15_method_2_code_15) rfl ?_
  refine own_putF X11 hx hZ hown (host := "") (Or.inl (hw _ (List.mem_of_getElem? (i := 17) rfl))) Via.refl e11 F16 E14 (Or.inr ⟨(hw _ (List.mem_of_getElem? (i := 18) rfl)), rfl, hnm⟩) (hw _ (List.mem_of_getElem? (i := 2) rfl)) (ty := .long) (by decide) rfl rfl (pc' := 19) rfl (hb hby d_prog_15_method_2_code_16) ?_
  intro T20 h20 X20 e20 W20
  have F21 := Fld.same W20 F16
  have S22 := own_sizWr W20 S13
  have E23 := Exa.wr W20 E14
  have F25 := Fld.other W20 F17 (Or.inr (slot_ne (Or.inr (hw _ (List.mem_of_getElem? (i := 20) rfl))) (Or.inr (hw _ (List.mem_of_getElem? (i := 18) rfl))) (by decide) (t := .long) (t' := .long) (by decide) (by decide)))
  have F26 := Fld.other W20 F18 (Or.inr (slot_ne (Or.inl (hw _ (List.mem_of_getElem? (i := 22) rfl))) (Or.inr (hw _ (List.mem_of_getElem? (i := 18) rfl))) (by decide) (t := .boolean) (t' := .long) (by decide) (by decide)))
  have F27 := Fld.other W20 F19 (Or.inr (slot_ne (Or.inr (hw _ (List.mem_of_getElem? (i := 14) rfl))) (Or.inr (hw _ (List.mem_of_getElem? (i := 18) rfl))) (by decide) (t := (.array .byte)) (t' := .long) (by decide) (by decide)))
  have F28 := Fld.other W20 F12 (Or.inr (slot_ne (Or.inr (hw _ (List.mem_of_getElem? (i := 16) rfl))) (Or.inr (hw _ (List.mem_of_getElem? (i := 18) rfl))) (by decide) (t := .int) (t' := .long) (by decide) (by decide)))
  have N20 := Fr.snoc X20 N11 ge_a1
  have K20 := Keep.wr K11 W20 (Or.inl (by simp))
  refine own_aloadN X20 hx (pc' := 20) rfl (hb hby d_prog_15_method_2_code_19) rfl rfl ?_
  refine own_lload X20 hx (pc' := 22) rfl (hb hby d_prog_15_method_2_code_20) rfl ?_
  refine own_putF X20 hx hZ hown (host := "") (Or.inl (hw _ (List.mem_of_getElem? (i := 19) rfl))) Via.refl e20 F25 E23 (Or.inr ⟨(hw _ (List.mem_of_getElem? (i := 20) rfl)), rfl, hnm⟩) (hw _ (List.mem_of_getElem? (i := 2) rfl)) (ty := .long) (by decide) rfl rfl (pc' := 25) rfl (hb hby d_prog_15_method_2_code_22) ?_
  intro T29 h29 X29 e29 W29
  have F30 := Fld.same W29 F25
  have S31 := own_sizWr W29 S22
  have E32 := Exa.wr W29 E23
  have F34 := Fld.other W29 F26 (Or.inr (slot_ne (Or.inl (hw _ (List.mem_of_getElem? (i := 22) rfl))) (Or.inr (hw _ (List.mem_of_getElem? (i := 20) rfl))) (by decide) (t := .boolean) (t' := .long) (by decide) (by decide)))
  have F35 := Fld.other W29 F27 (Or.inr (slot_ne (Or.inr (hw _ (List.mem_of_getElem? (i := 14) rfl))) (Or.inr (hw _ (List.mem_of_getElem? (i := 20) rfl))) (by decide) (t := (.array .byte)) (t' := .long) (by decide) (by decide)))
  have F36 := Fld.other W29 F28 (Or.inr (slot_ne (Or.inr (hw _ (List.mem_of_getElem? (i := 16) rfl))) (Or.inr (hw _ (List.mem_of_getElem? (i := 20) rfl))) (by decide) (t := .int) (t' := .long) (by decide) (by decide)))
  have F37 := Fld.other W29 F21 (Or.inr (slot_ne (Or.inr (hw _ (List.mem_of_getElem? (i := 18) rfl))) (Or.inr (hw _ (List.mem_of_getElem? (i := 20) rfl))) (by decide) (t := .long) (t' := .long) (by decide) (by decide)))
  have N29 := Fr.snoc X29 N20 ge_a1
  have K29 := Keep.wr K20 W29 (Or.inl (by simp))
  refine own_aloadN X29 hx (pc' := 26) rfl (hb hby d_prog_15_method_2_code_25) rfl rfl ?_
  refine own_iload X29 hx (pc' := 28) rfl (hb hby d_prog_15_method_2_code_26) rfl ?_
  refine own_putF X29 hx hZ hown (host := "") (Or.inl (hw _ (List.mem_of_getElem? (i := 21) rfl))) Via.refl e29 F34 E32 (Or.inl (hw _ (List.mem_of_getElem? (i := 22) rfl))) (hw _ (List.mem_of_getElem? (i := 2) rfl)) (ty := .boolean) (by decide) (by rw [hz]; rfl) (by rw [hz]; rfl) (pc' := 31) rfl (hb hby d_prog_15_method_2_code_28) ?_
  intro T38 h38 X38 e38 W38
  have F39 := Fld.same W38 F34
  have S40 := own_sizWr W38 S31
  have E41 := Exa.wr W38 E32
  have F43 := Fld.other W38 F35 (Or.inr (slot_ne (Or.inr (hw _ (List.mem_of_getElem? (i := 14) rfl))) (Or.inl (hw _ (List.mem_of_getElem? (i := 22) rfl))) (by decide) (t := (.array .byte)) (t' := .boolean) (by decide) (by decide)))
  have F44 := Fld.other W38 F36 (Or.inr (slot_ne (Or.inr (hw _ (List.mem_of_getElem? (i := 16) rfl))) (Or.inl (hw _ (List.mem_of_getElem? (i := 22) rfl))) (by decide) (t := .int) (t' := .boolean) (by decide) (by decide)))
  have F45 := Fld.other W38 F37 (Or.inr (slot_ne (Or.inr (hw _ (List.mem_of_getElem? (i := 18) rfl))) (Or.inl (hw _ (List.mem_of_getElem? (i := 22) rfl))) (by decide) (t := .long) (t' := .boolean) (by decide) (by decide)))
  have F46 := Fld.other W38 F30 (Or.inr (slot_ne (Or.inr (hw _ (List.mem_of_getElem? (i := 20) rfl))) (Or.inl (hw _ (List.mem_of_getElem? (i := 22) rfl))) (by decide) (t := .long) (t' := .boolean) (by decide) (by decide)))
  have N38 := Fr.snoc X38 N29 ge_a1
  have K38 := Keep.wr K29 W38 (Or.inl (by simp))
  refine own_ret X38 hx hlk hret (hb hby d_prog_15_method_2_code_31) (by decide) (by decide) ?_
  rw [e38]
  exact ⟨rfl, N38, K38, E41, F43, F44, F45, F46, F39⟩
theorem ef_rm_item3 (m : MethodId) (a1 : Addr) (a2 : Addr) (p3 : Int32) (q4 : Int64) : entryFrame m #[(.ref a1), (.ref a2), (.int p3), (.long q4)] 5 = mkF m 0 #[.val (.ref a1), .val (.ref a2), .val (.int p3), .val (.long q4), .second] [] := by first | (simp [entryFrame, mkF, argsToLocals, Value.category]; done) | rfl
def K_rm_item3  (Z : State) (h0 : Heap) (n0 : Nat) (a1 : Addr) (a2 : Addr) (p3 : Int32) (q4 : Int64) (v : Option Value) (h : Heap) (L : List Loc) : Prop := v = none ∧ Fr n0 L ∧ Keep h0 h [a1] ∧ Exa Z h a1 "com/example/mayfly/mayfly/store/Item" ∧ Fld Z h a1 "com/example/mayfly/mayfly/store/Item" "value" "[B" (.ref a2) ∧ Fld Z h a1 "com/example/mayfly/mayfly/store/Item" "flags" "I" (.int p3) ∧ Fld Z h a1 "com/example/mayfly/mayfly/store/Item" "deadline" "J" (.long q4) ∧ Fld Z h a1 "com/example/mayfly/mayfly/store/Item" "cas" "J" (.long (0 : Int64)) ∧ Fld Z h a1 "com/example/mayfly/mayfly/store/Item" "read" "Z" (.int (0 : Int32))
theorem d_prog_15_method_1_code_0 : decode prog_15_method_1_code 0 = .ok (.aload_n 0, 1) := by decide +kernel
theorem d_prog_15_method_1_code_1 : decode prog_15_method_1_code 1 = .ok (.aload_n 1, 1) := by decide +kernel
theorem d_prog_15_method_1_code_2 : decode prog_15_method_1_code 2 = .ok (.iload_n 2, 1) := by decide +kernel
theorem d_prog_15_method_1_code_3 : decode prog_15_method_1_code 3 = .ok (.lload_n 3, 1) := by decide +kernel
theorem d_prog_15_method_1_code_4 : decode prog_15_method_1_code 4 = .ok (.lconst 0, 1) := by decide +kernel
theorem d_prog_15_method_1_code_5 : decode prog_15_method_1_code 5 = .ok (.iconst 0, 1) := by decide +kernel
theorem d_prog_15_method_1_code_6 : decode prog_15_method_1_code 6 = .ok (.invokespecial 1, 3) := by decide +kernel
theorem pd___BIJJZ_V : parseMethodDescriptor "([BIJJZ)V" = some ⟨[(.array .byte), .int, .long, .long, .boolean], none⟩ := by decide +kernel
theorem d_prog_15_method_1_code_9 : decode prog_15_method_1_code 9 = .ok (.return_, 1) := by decide +kernel
set_option maxRecDepth 65536 in
set_option maxHeartbeats 40000000 in
theorem rm_item3 (l : Launch) (Z : State) (a0 : Array Value) (hw : ∀ d ∈ tables_1, d.before a0 Z = true) (ws : List Jvm.Cond)  (a1 : Addr) (a2 : Addr) (p3 : Int32) (q4 : Int64) (h0 : Heap) (n0 : Nat) (Z0 : n0 ≤ h0.size) (I0 : Exa Z h0 a1 "com/example/mayfly/mayfly/store/Item") (I1 : Fld Z h0 a1 "com/example/mayfly/mayfly/store/Item" "value" "[B" .null) (I2 : Fld Z h0 a1 "com/example/mayfly/mayfly/store/Item" "flags" "I" (.int (0 : Int32))) (I3 : Fld Z h0 a1 "com/example/mayfly/mayfly/store/Item" "deadline" "J" (.long (0 : Int64))) (I4 : Fld Z h0 a1 "com/example/mayfly/mayfly/store/Item" "cas" "J" (.long (0 : Int64))) (I5 : Fld Z h0 a1 "com/example/mayfly/mayfly/store/Item" "read" "Z" (.int (0 : Int32))) (ge_a1 : n0 ≤ a1) :
    MetFree l (⟨"com/example/mayfly/mayfly/store/Item", "<init>", "([BIJ)V"⟩ : MethodName) (head1 (Jvm.Cond.code (⟨"com/example/mayfly/mayfly/store/Item", "<init>", "([BIJ)V"⟩ : MethodName) prog_15_method_1_code 5 none :: ws) ({ frames := 2, cells := 0, slots := 0, locals := 31 } : Room)) (fun a U => a = #[(.ref a1), (.ref a2), (.int p3), (.long q4)] ∧ Z.Warmed39 U.vm ∧ U.heap = h0) (fun _ _ _ _ _ => True) (fun _ U o U' => ∃ v L, o = .returned v ∧ (K_rm_item3  Z h0 n0 a1 a2 p3 q4) v U'.heap L ∧ FrameEnd U o U' L ({ frames := 2, cells := 0, slots := 0, locals := 31 } : Room).cells ({ frames := 2, cells := 0, slots := 0, locals := 31 } : Room).slots) := by
  refine own_body (plainFor_of_name pn_com_example_mayfly_mayfly_store_Item) ?_
  intro p e s m below meth c s₁ hx hby hml hown hnm hret hlk hZ X0 e0
  have hown : s.vm.findClass "com/example/mayfly/mayfly/store/Item" = some m.cls := hown
  have N0 := Fr.nil n0
  rw [ef_rm_item3 m a1 a2 p3 q4]
  have K0 := Keep.refl h0 [a1]
  refine own_aloadN X0 hx (pc' := 1) rfl (hb hby d_prog_15_method_1_code_0) rfl rfl ?_
  refine own_aloadN X0 hx (pc' := 2) rfl (hb hby d_prog_15_method_1_code_1) rfl rfl ?_
  refine own_iloadN X0 hx (pc' := 3) rfl (hb hby d_prog_15_method_1_code_2) rfl ?_
  refine own_lloadN X0 hx (pc' := 4) rfl (hb hby d_prog_15_method_1_code_3) rfl ?_
  refine own_lconst X0 hx (v := (0 : Int64)) (pc' := 5) rfl (hb hby d_prog_15_method_1_code_4) rfl ?_
  refine own_iconst X0 hx (v := (0 : Int32)) (pc' := 6) rfl (hb hby d_prog_15_method_1_code_5) rfl ?_
  refine own_callC X0 hx hZ (y := (⟨"com/example/mayfly/mayfly/store/Item", "<init>", "([BIJJZ)V"⟩ : MethodName)) rfl hown (hw _ (List.mem_of_getElem? (i := 7) rfl)) (hw _ (List.mem_of_getElem? (i := 8) rfl)) (hw _ (List.mem_of_getElem? (i := 3) rfl)) (hw _ (List.mem_of_getElem? (i := 9) rfl))  (by decide) (rm_item5 l Z a0 hw [] a1 a2 p3 q4 (0 : Int64) (0 : Int32) h0 n0 Z0 I0 I1 I2 I3 I4 I5 ge_a1 rfl) (by decide) (W := 0) (by decide) (by decide) (by decide) e0 (by rw [hml]; rfl) (argsL := [(.ref a2), (.int p3), (.long q4), (.long (0 : Int64)), (.int (0 : Int32))]) (rest := []) rfl (lenOf pd___BIJJZ_V rfl) rfl (Nat.le_of_eq rfl) (pc' := 9) rfl (hb hby d_prog_15_method_1_code_6) ?_
  rintro _ T1 L1 X1 ⟨rfl, N1, K1, G1_0, G1_1, G1_2, G1_3, G1_4, G1_5⟩
  have M1 := Fr.app N0 N1
  obtain ⟨h1, e1⟩ : ∃ z, T1.heap = z := ⟨_, rfl⟩
  rw [e1] at K1 G1_0 G1_1 G1_2 G1_3 G1_4 G1_5
  have S2 := Nat.le_trans Z0 K1.1
  have E3 := I0.keep K1
  have Q1 := Keep.trans K0 K1 (by intro z hz; simp at hz ⊢; first | exact Or.inl hz | (subst hz; simp))
  show own_Goes p e below T1 (mkF m 9 #[.val (.ref a1), .val (.ref a2), .val (.int p3), .val (.long q4), .second] []) (own_Ret s (K_rm_item3  Z h0 n0 a1 a2 p3 q4) ({ frames := 2, cells := 0, slots := 0, locals := 31 } : Room).cells ({ frames := 2, cells := 0, slots := 0, locals := 31 } : Room).slots)
  refine own_ret X1 hx hlk hret (hb hby d_prog_15_method_1_code_9) (by decide) (by decide) ?_
  rw [e1]
  exact ⟨rfl, M1, Q1, E3, G1_1, G1_2, G1_3, G1_4, G1_5⟩
theorem ef_rm_was (m : MethodId) (a1 : Addr) : entryFrame m #[(.ref a1)] 1 = mkF m 0 #[.val (.ref a1)] [] := by first | (simp [entryFrame, mkF, argsToLocals, Value.category]; done) | rfl
def K_rm_was (f6 : Int32) (Z : State) (h0 : Heap) (n0 : Nat) (a1 : Addr) (v : Option Value) (h : Heap) (L : List Loc) : Prop := v = some (.int f6) ∧ Fr n0 L ∧ h = h0
theorem d_prog_15_method_8_code_0 : decode prog_15_method_8_code 0 = .ok (.aload_n 0, 1) := by decide +kernel
theorem d_prog_15_method_8_code_1 : decode prog_15_method_8_code 1 = .ok (.getfield 27, 3) := by decide +kernel
theorem d_prog_15_method_8_code_4 : decode prog_15_method_8_code 4 = .ok (.ireturn, 1) := by decide +kernel
set_option maxRecDepth 65536 in
set_option maxHeartbeats 40000000 in
theorem rm_was (l : Launch) (Z : State) (a0 : Array Value) (hw : ∀ d ∈ tables_1, d.before a0 Z = true) (ws : List Jvm.Cond) (f6 : Int32) (a1 : Addr) (h0 : Heap) (n0 : Nat) (Z0 : n0 ≤ h0.size) (I0 : Exa Z h0 a1 "com/example/mayfly/mayfly/store/Item") (I1 : Fld Z h0 a1 "com/example/mayfly/mayfly/store/Item" "read" "Z" (.int f6)) (hz : f6 = (0 : Int32) ∨ f6 = (1 : Int32)) :
    MetFree l (⟨"com/example/mayfly/mayfly/store/Item", "wasRead", "()Z"⟩ : MethodName) (head1 (Jvm.Cond.code (⟨"com/example/mayfly/mayfly/store/Item", "wasRead", "()Z"⟩ : MethodName) prog_15_method_8_code 1 (some .boolean) :: ws) ({ frames := 0, cells := 0, slots := 0, locals := 0 } : Room)) (fun a U => a = #[(.ref a1)] ∧ Z.Warmed39 U.vm ∧ U.heap = h0) (fun _ _ _ _ _ => True) (fun _ U o U' => ∃ v L, o = .returned v ∧ (K_rm_was f6 Z h0 n0 a1) v U'.heap L ∧ FrameEnd U o U' L ({ frames := 0, cells := 0, slots := 0, locals := 0 } : Room).cells ({ frames := 0, cells := 0, slots := 0, locals := 0 } : Room).slots) := by
  refine own_body (plainFor_of_name pn_com_example_mayfly_mayfly_store_Item) ?_
  intro p e s m below meth c s₁ hx hby hml hown hnm hret hlk hZ X0 e0
  have hown : s.vm.findClass "com/example/mayfly/mayfly/store/Item" = some m.cls := hown
  have N0 := Fr.nil n0
  rw [ef_rm_was m a1]
  refine own_aloadN X0 hx (pc' := 1) rfl (hb hby d_prog_15_method_8_code_0) rfl rfl ?_
  refine own_getF X0 hx hZ hown (host := "") (Or.inl (hw _ (List.mem_of_getElem? (i := 21) rfl))) Via.refl e0 I1 (pc' := 4) rfl (hb hby d_prog_15_method_8_code_1) ?_
  intro T1 X1 e1
  refine own_zret X1 hx hlk hret (by simp) (hb hby d_prog_15_method_8_code_4) (by decide) (by decide) ?_
  rw [e1]
  exact ⟨by rcases hz with rfl | rfl <;> rfl, N0, rfl⟩
theorem ef_rm_val (m : MethodId) (a1 : Addr) : entryFrame m #[(.ref a1)] 1 = mkF m 0 #[.val (.ref a1)] [] := by first | (simp [entryFrame, mkF, argsToLocals, Value.category]; done) | rfl
def K_rm_val (b2 : Addr) (Z : State) (h0 : Heap) (n0 : Nat) (a1 : Addr) (v : Option Value) (h : Heap) (L : List Loc) : Prop := v = some (.ref b2) ∧ Fr n0 L ∧ h = h0
theorem d_prog_15_method_3_code_0 : decode prog_15_method_3_code 0 = .ok (.aload_n 0, 1) := by decide +kernel
theorem d_prog_15_method_3_code_1 : decode prog_15_method_3_code 1 = .ok (.getfield 12, 3) := by decide +kernel
theorem d_prog_15_method_3_code_4 : decode prog_15_method_3_code 4 = .ok (.areturn, 1) := by decide +kernel
set_option maxRecDepth 65536 in
set_option maxHeartbeats 40000000 in
theorem rm_val (l : Launch) (Z : State) (a0 : Array Value) (hw : ∀ d ∈ tables_1, d.before a0 Z = true) (ws : List Jvm.Cond) (b2 : Addr) (a1 : Addr) (h0 : Heap) (n0 : Nat) (Z0 : n0 ≤ h0.size) (I0 : Exa Z h0 a1 "com/example/mayfly/mayfly/store/Item") (I1 : Fld Z h0 a1 "com/example/mayfly/mayfly/store/Item" "value" "[B" (.ref b2)) :
    MetFree l (⟨"com/example/mayfly/mayfly/store/Item", "value", "()[B"⟩ : MethodName) (head1 (Jvm.Cond.code (⟨"com/example/mayfly/mayfly/store/Item", "value", "()[B"⟩ : MethodName) prog_15_method_3_code 1 (some (.array .byte)) :: ws) ({ frames := 0, cells := 0, slots := 0, locals := 0 } : Room)) (fun a U => a = #[(.ref a1)] ∧ Z.Warmed39 U.vm ∧ U.heap = h0) (fun _ _ _ _ _ => True) (fun _ U o U' => ∃ v L, o = .returned v ∧ (K_rm_val b2 Z h0 n0 a1) v U'.heap L ∧ FrameEnd U o U' L ({ frames := 0, cells := 0, slots := 0, locals := 0 } : Room).cells ({ frames := 0, cells := 0, slots := 0, locals := 0 } : Room).slots) := by
  refine own_body (plainFor_of_name pn_com_example_mayfly_mayfly_store_Item) ?_
  intro p e s m below meth c s₁ hx hby hml hown hnm hret hlk hZ X0 e0
  have hown : s.vm.findClass "com/example/mayfly/mayfly/store/Item" = some m.cls := hown
  have N0 := Fr.nil n0
  rw [ef_rm_val m a1]
  refine own_aloadN X0 hx (pc' := 1) rfl (hb hby d_prog_15_method_3_code_0) rfl rfl ?_
  refine own_getF X0 hx hZ hown (host := "") (Or.inl (hw _ (List.mem_of_getElem? (i := 13) rfl))) Via.refl e0 I1 (pc' := 4) rfl (hb hby d_prog_15_method_3_code_1) ?_
  intro T1 X1 e1
  refine own_aret X1 hx hlk hret rfl rfl (hb hby d_prog_15_method_3_code_4) (by decide) (by decide) ?_
  rw [e1]
  exact ⟨rfl, N0, rfl⟩
theorem ef_rm_flg (m : MethodId) (a1 : Addr) : entryFrame m #[(.ref a1)] 1 = mkF m 0 #[.val (.ref a1)] [] := by first | (simp [entryFrame, mkF, argsToLocals, Value.category]; done) | rfl
def K_rm_flg (f3 : Int32) (Z : State) (h0 : Heap) (n0 : Nat) (a1 : Addr) (v : Option Value) (h : Heap) (L : List Loc) : Prop := v = some (.int f3) ∧ Fr n0 L ∧ h = h0
theorem d_prog_15_method_4_code_0 : decode prog_15_method_4_code 0 = .ok (.aload_n 0, 1) := by decide +kernel
theorem d_prog_15_method_4_code_1 : decode prog_15_method_4_code 1 = .ok (.getfield 16, 3) := by decide +kernel
theorem d_prog_15_method_4_code_4 : decode prog_15_method_4_code 4 = .ok (.ireturn, 1) := by decide +kernel
set_option maxRecDepth 65536 in
set_option maxHeartbeats 40000000 in
theorem rm_flg (l : Launch) (Z : State) (a0 : Array Value) (hw : ∀ d ∈ tables_1, d.before a0 Z = true) (ws : List Jvm.Cond) (f3 : Int32) (a1 : Addr) (h0 : Heap) (n0 : Nat) (Z0 : n0 ≤ h0.size) (I0 : Exa Z h0 a1 "com/example/mayfly/mayfly/store/Item") (I1 : Fld Z h0 a1 "com/example/mayfly/mayfly/store/Item" "flags" "I" (.int f3)) :
    MetFree l (⟨"com/example/mayfly/mayfly/store/Item", "flags", "()I"⟩ : MethodName) (head1 (Jvm.Cond.code (⟨"com/example/mayfly/mayfly/store/Item", "flags", "()I"⟩ : MethodName) prog_15_method_4_code 1 (some .int) :: ws) ({ frames := 0, cells := 0, slots := 0, locals := 0 } : Room)) (fun a U => a = #[(.ref a1)] ∧ Z.Warmed39 U.vm ∧ U.heap = h0) (fun _ _ _ _ _ => True) (fun _ U o U' => ∃ v L, o = .returned v ∧ (K_rm_flg f3 Z h0 n0 a1) v U'.heap L ∧ FrameEnd U o U' L ({ frames := 0, cells := 0, slots := 0, locals := 0 } : Room).cells ({ frames := 0, cells := 0, slots := 0, locals := 0 } : Room).slots) := by
  refine own_body (plainFor_of_name pn_com_example_mayfly_mayfly_store_Item) ?_
  intro p e s m below meth c s₁ hx hby hml hown hnm hret hlk hZ X0 e0
  have hown : s.vm.findClass "com/example/mayfly/mayfly/store/Item" = some m.cls := hown
  have N0 := Fr.nil n0
  rw [ef_rm_flg m a1]
  refine own_aloadN X0 hx (pc' := 1) rfl (hb hby d_prog_15_method_4_code_0) rfl rfl ?_
  refine own_getF X0 hx hZ hown (host := "") (Or.inl (hw _ (List.mem_of_getElem? (i := 15) rfl))) Via.refl e0 I1 (pc' := 4) rfl (hb hby d_prog_15_method_4_code_1) ?_
  intro T1 X1 e1
  refine own_iret X1 hx hlk hret (hb hby d_prog_15_method_4_code_4) (by decide) (by decide) ?_
  rw [e1]
  exact ⟨rfl, N0, rfl⟩
theorem ef_rm_ddl (m : MethodId) (a1 : Addr) : entryFrame m #[(.ref a1)] 1 = mkF m 0 #[.val (.ref a1)] [] := by first | (simp [entryFrame, mkF, argsToLocals, Value.category]; done) | rfl
def K_rm_ddl (f4 : Int64) (Z : State) (h0 : Heap) (n0 : Nat) (a1 : Addr) (v : Option Value) (h : Heap) (L : List Loc) : Prop := v = some (.long f4) ∧ Fr n0 L ∧ h = h0
theorem d_prog_15_method_5_code_0 : decode prog_15_method_5_code 0 = .ok (.aload_n 0, 1) := by decide +kernel
theorem d_prog_15_method_5_code_1 : decode prog_15_method_5_code 1 = .ok (.getfield 20, 3) := by decide +kernel
theorem d_prog_15_method_5_code_4 : decode prog_15_method_5_code 4 = .ok (.lreturn, 1) := by decide +kernel
set_option maxRecDepth 65536 in
set_option maxHeartbeats 40000000 in
theorem rm_ddl (l : Launch) (Z : State) (a0 : Array Value) (hw : ∀ d ∈ tables_1, d.before a0 Z = true) (ws : List Jvm.Cond) (f4 : Int64) (a1 : Addr) (h0 : Heap) (n0 : Nat) (Z0 : n0 ≤ h0.size) (I0 : Exa Z h0 a1 "com/example/mayfly/mayfly/store/Item") (I1 : Fld Z h0 a1 "com/example/mayfly/mayfly/store/Item" "deadline" "J" (.long f4)) :
    MetFree l (⟨"com/example/mayfly/mayfly/store/Item", "deadline", "()J"⟩ : MethodName) (head1 (Jvm.Cond.code (⟨"com/example/mayfly/mayfly/store/Item", "deadline", "()J"⟩ : MethodName) prog_15_method_5_code 1 (some .long) :: ws) ({ frames := 0, cells := 0, slots := 0, locals := 0 } : Room)) (fun a U => a = #[(.ref a1)] ∧ Z.Warmed39 U.vm ∧ U.heap = h0) (fun _ _ _ _ _ => True) (fun _ U o U' => ∃ v L, o = .returned v ∧ (K_rm_ddl f4 Z h0 n0 a1) v U'.heap L ∧ FrameEnd U o U' L ({ frames := 0, cells := 0, slots := 0, locals := 0 } : Room).cells ({ frames := 0, cells := 0, slots := 0, locals := 0 } : Room).slots) := by
  refine own_body (plainFor_of_name pn_com_example_mayfly_mayfly_store_Item) ?_
  intro p e s m below meth c s₁ hx hby hml hown hnm hret hlk hZ X0 e0
  have hown : s.vm.findClass "com/example/mayfly/mayfly/store/Item" = some m.cls := hown
  have N0 := Fr.nil n0
  rw [ef_rm_ddl m a1]
  refine own_aloadN X0 hx (pc' := 1) rfl (hb hby d_prog_15_method_5_code_0) rfl rfl ?_
  refine own_getF X0 hx hZ hown (host := "") (Or.inl (hw _ (List.mem_of_getElem? (i := 17) rfl))) Via.refl e0 I1 (pc' := 4) rfl (hb hby d_prog_15_method_5_code_1) ?_
  intro T1 X1 e1
  refine own_lret X1 hx hlk hret (hb hby d_prog_15_method_5_code_4) (by decide) (by decide) ?_
  rw [e1]
  exact ⟨rfl, N0, rfl⟩
theorem ef_rm_cas (m : MethodId) (a1 : Addr) : entryFrame m #[(.ref a1)] 1 = mkF m 0 #[.val (.ref a1)] [] := by first | (simp [entryFrame, mkF, argsToLocals, Value.category]; done) | rfl
def K_rm_cas (f5 : Int64) (Z : State) (h0 : Heap) (n0 : Nat) (a1 : Addr) (v : Option Value) (h : Heap) (L : List Loc) : Prop := v = some (.long f5) ∧ Fr n0 L ∧ h = h0
theorem d_prog_15_method_6_code_0 : decode prog_15_method_6_code 0 = .ok (.aload_n 0, 1) := by decide +kernel
theorem d_prog_15_method_6_code_1 : decode prog_15_method_6_code 1 = .ok (.getfield 24, 3) := by decide +kernel
theorem d_prog_15_method_6_code_4 : decode prog_15_method_6_code 4 = .ok (.lreturn, 1) := by decide +kernel
set_option maxRecDepth 65536 in
set_option maxHeartbeats 40000000 in
theorem rm_cas (l : Launch) (Z : State) (a0 : Array Value) (hw : ∀ d ∈ tables_1, d.before a0 Z = true) (ws : List Jvm.Cond) (f5 : Int64) (a1 : Addr) (h0 : Heap) (n0 : Nat) (Z0 : n0 ≤ h0.size) (I0 : Exa Z h0 a1 "com/example/mayfly/mayfly/store/Item") (I1 : Fld Z h0 a1 "com/example/mayfly/mayfly/store/Item" "cas" "J" (.long f5)) :
    MetFree l (⟨"com/example/mayfly/mayfly/store/Item", "cas", "()J"⟩ : MethodName) (head1 (Jvm.Cond.code (⟨"com/example/mayfly/mayfly/store/Item", "cas", "()J"⟩ : MethodName) prog_15_method_6_code 1 (some .long) :: ws) ({ frames := 0, cells := 0, slots := 0, locals := 0 } : Room)) (fun a U => a = #[(.ref a1)] ∧ Z.Warmed39 U.vm ∧ U.heap = h0) (fun _ _ _ _ _ => True) (fun _ U o U' => ∃ v L, o = .returned v ∧ (K_rm_cas f5 Z h0 n0 a1) v U'.heap L ∧ FrameEnd U o U' L ({ frames := 0, cells := 0, slots := 0, locals := 0 } : Room).cells ({ frames := 0, cells := 0, slots := 0, locals := 0 } : Room).slots) := by
  refine own_body (plainFor_of_name pn_com_example_mayfly_mayfly_store_Item) ?_
  intro p e s m below meth c s₁ hx hby hml hown hnm hret hlk hZ X0 e0
  have hown : s.vm.findClass "com/example/mayfly/mayfly/store/Item" = some m.cls := hown
  have N0 := Fr.nil n0
  rw [ef_rm_cas m a1]
  refine own_aloadN X0 hx (pc' := 1) rfl (hb hby d_prog_15_method_6_code_0) rfl rfl ?_
  refine own_getF X0 hx hZ hown (host := "") (Or.inl (hw _ (List.mem_of_getElem? (i := 19) rfl))) Via.refl e0 I1 (pc' := 4) rfl (hb hby d_prog_15_method_6_code_1) ?_
  intro T1 X1 e1
  refine own_lret X1 hx hlk hret (hb hby d_prog_15_method_6_code_4) (by decide) (by decide) ?_
  rw [e1]
  exact ⟨rfl, N0, rfl⟩
theorem ef_rm_mark (m : MethodId) (a1 : Addr) : entryFrame m #[(.ref a1)] 1 = mkF m 0 #[.val (.ref a1)] [] := by first | (simp [entryFrame, mkF, argsToLocals, Value.category]; done) | rfl
def K_rm_mark (b2 : Addr) (f3 : Int32) (f4 : Int64) (f5 : Int64) (f6 : Int32) (Z : State) (h0 : Heap) (n0 : Nat) (a1 : Addr) (v : Option Value) (h : Heap) (L : List Loc) : Prop := v = none ∧ Fr n0 L ∧ Keep h0 h [a1] ∧ Exa Z h a1 "com/example/mayfly/mayfly/store/Item" ∧ Fld Z h a1 "com/example/mayfly/mayfly/store/Item" "value" "[B" (.ref b2) ∧ Fld Z h a1 "com/example/mayfly/mayfly/store/Item" "flags" "I" (.int f3) ∧ Fld Z h a1 "com/example/mayfly/mayfly/store/Item" "deadline" "J" (.long f4) ∧ Fld Z h a1 "com/example/mayfly/mayfly/store/Item" "cas" "J" (.long f5) ∧ Fld Z h a1 "com/example/mayfly/mayfly/store/Item" "read" "Z" (.int (1 : Int32))
theorem d_prog_15_method_7_code_0 : decode prog_15_method_7_code 0 = .ok (.aload_n 0, 1) := by decide +kernel
theorem d_prog_15_method_7_code_1 : decode prog_15_method_7_code 1 = .ok (.getfield 27, 3) := by decide +kernel
theorem d_prog_15_method_7_code_4 : decode prog_15_method_7_code 4 = .ok (.ifCond .ne 8, 3) := by decide +kernel
theorem d_prog_15_method_7_code_7 : decode prog_15_method_7_code 7 = .ok (.aload_n 0, 1) := by decide +kernel
theorem d_prog_15_method_7_code_8 : decode prog_15_method_7_code 8 = .ok (.iconst 1, 1) := by decide +kernel
theorem d_prog_15_method_7_code_9 : decode prog_15_method_7_code 9 = .ok (.putfield 27, 3) := by decide +kernel
theorem d_prog_15_method_7_code_12 : decode prog_15_method_7_code 12 = .ok (.return_, 1) := by decide +kernel
set_option maxRecDepth 65536 in
set_option maxHeartbeats 40000000 in
theorem rm_mark (l : Launch) (Z : State) (a0 : Array Value) (hw : ∀ d ∈ tables_1, d.before a0 Z = true) (ws : List Jvm.Cond) (b2 : Addr) (f3 : Int32) (f4 : Int64) (f5 : Int64) (f6 : Int32) (a1 : Addr) (h0 : Heap) (n0 : Nat) (Z0 : n0 ≤ h0.size) (I0 : Exa Z h0 a1 "com/example/mayfly/mayfly/store/Item") (I1 : Fld Z h0 a1 "com/example/mayfly/mayfly/store/Item" "value" "[B" (.ref b2)) (I2 : Fld Z h0 a1 "com/example/mayfly/mayfly/store/Item" "flags" "I" (.int f3)) (I3 : Fld Z h0 a1 "com/example/mayfly/mayfly/store/Item" "deadline" "J" (.long f4)) (I4 : Fld Z h0 a1 "com/example/mayfly/mayfly/store/Item" "cas" "J" (.long f5)) (I5 : Fld Z h0 a1 "com/example/mayfly/mayfly/store/Item" "read" "Z" (.int f6)) (ge_a1 : n0 ≤ a1) (hz : f6 = (0 : Int32) ∨ f6 = (1 : Int32)) :
    MetFree l (⟨"com/example/mayfly/mayfly/store/Item", "markRead", "()V"⟩ : MethodName) (head1 (Jvm.Cond.code (⟨"com/example/mayfly/mayfly/store/Item", "markRead", "()V"⟩ : MethodName) prog_15_method_7_code 1 none :: ws) ({ frames := 0, cells := 0, slots := 0, locals := 0 } : Room)) (fun a U => a = #[(.ref a1)] ∧ Z.Warmed39 U.vm ∧ U.heap = h0) (fun _ _ _ _ _ => True) (fun _ U o U' => ∃ v L, o = .returned v ∧ (K_rm_mark b2 f3 f4 f5 f6 Z h0 n0 a1) v U'.heap L ∧ FrameEnd U o U' L ({ frames := 0, cells := 0, slots := 0, locals := 0 } : Room).cells ({ frames := 0, cells := 0, slots := 0, locals := 0 } : Room).slots) := by
  refine own_body (plainFor_of_name pn_com_example_mayfly_mayfly_store_Item) ?_
  intro p e s m below meth c s₁ hx hby hml hown hnm hret hlk hZ X0 e0
  have hown : s.vm.findClass "com/example/mayfly/mayfly/store/Item" = some m.cls := hown
  have N0 := Fr.nil n0
  rw [ef_rm_mark m a1]
  have K0 := Keep.refl h0 [a1]
  refine own_aloadN X0 hx (pc' := 1) rfl (hb hby d_prog_15_method_7_code_0) rfl rfl ?_
  refine own_getF X0 hx hZ hown (host := "") (Or.inl (hw _ (List.mem_of_getElem? (i := 21) rfl))) Via.refl e0 I5 (pc' := 4) rfl (hb hby d_prog_15_method_7_code_1) ?_
  intro T1 X1 e1
  by_cases c4_2 : f6 = 0
  · refine own_ifF X1 hx (pc' := 7) rfl (hb hby d_prog_15_method_7_code_4) (XT.i0_ne_f c4_2) ?_
    refine own_aloadN X1 hx (pc' := 8) rfl (hb hby d_prog_15_method_7_code_7) rfl rfl ?_
    refine own_iconst X1 hx (v := (1 : Int32)) (pc' := 9) rfl (hb hby d_prog_15_method_7_code_8) rfl ?_
    refine own_putF X1 hx hZ hown (host := "") (Or.inl (hw _ (List.mem_of_getElem? (i := 21) rfl))) Via.refl e1 I5 I0 (Or.inl (hw _ (List.mem_of_getElem? (i := 22) rfl))) (hw _ (List.mem_of_getElem? (i := 2) rfl)) (ty := .boolean) (by decide) rfl (by decide) (pc' := 12) rfl (hb hby d_prog_15_method_7_code_9) ?_
    intro T3 h3 X3 e3 W3
    have F4 := Fld.same W3 I5
    have S5 := own_sizWr W3 Z0
    have E6 := Exa.wr W3 I0
    have F7 := Fld.other W3 I1 (Or.inr (slot_ne (Or.inr (hw _ (List.mem_of_getElem? (i := 14) rfl))) (Or.inl (hw _ (List.mem_of_getElem? (i := 22) rfl))) (by decide) (t := (.array .byte)) (t' := .boolean) (by decide) (by decide)))
    have F8 := Fld.other W3 I2 (Or.inr (slot_ne (Or.inr (hw _ (List.mem_of_getElem? (i := 16) rfl))) (Or.inl (hw _ (List.mem_of_getElem? (i := 22) rfl))) (by decide) (t := .int) (t' := .boolean) (by decide) (by decide)))
    have F9 := Fld.other W3 I3 (Or.inr (slot_ne (Or.inr (hw _ (List.mem_of_getElem? (i := 18) rfl))) (Or.inl (hw _ (List.mem_of_getElem? (i := 22) rfl))) (by decide) (t := .long) (t' := .boolean) (by decide) (by decide)))
    have F10 := Fld.other W3 I4 (Or.inr (slot_ne (Or.inr (hw _ (List.mem_of_getElem? (i := 20) rfl))) (Or.inl (hw _ (List.mem_of_getElem? (i := 22) rfl))) (by decide) (t := .long) (t' := .boolean) (by decide) (by decide)))
    have N3 := Fr.snoc X3 N0 ge_a1
    have K3 := Keep.wr K0 W3 (Or.inl (by simp))
    refine own_ret X3 hx hlk hret (hb hby d_prog_15_method_7_code_12) (by decide) (by decide) ?_
    rw [e3]
    exact ⟨rfl, N3, K3, E6, F7, F8, F9, F10, F4⟩
  · refine own_ifT X1 hx (pc' := 12) (hb hby d_prog_15_method_7_code_4) (XT.i0_ne_t c4_2) (by decide) (by decide) ?_
    refine own_ret X1 hx hlk hret (hb hby d_prog_15_method_7_code_12) (by decide) (by decide) ?_
    rw [e1]
    exact ⟨rfl, N0, K0, I0, I1, I2, I3, I4, (hz.elim (fun q => absurd q c4_2) (fun q => by rw [q] at I5; exact I5))⟩
theorem own_and3 (x : Int32) : (x &&& (3 : Int32)) = 0 ∨ (x &&& (3 : Int32)) = 1 ∨ (x &&& (3 : Int32)) = 2 ∨ (x &&& (3 : Int32)) = 3 := by
  have e1 : (x &&& 3).toInt = x.toInt % 2 ^ 2 := Jvm.Kit.i32_mask x 3 (k := 2) (by decide) (by decide)
  have k : ∀ n : Int32, (x &&& 3).toInt = n.toInt → (x &&& 3) = n := fun n h => Int32.toInt_inj.mp h
  have h : (x &&& 3).toInt = 0 ∨ (x &&& 3).toInt = 1 ∨ (x &&& 3).toInt = 2 ∨ (x &&& 3).toInt = 3 := by omega
  rcases h with h | h | h | h
  · exact Or.inl (k 0 h)
  · exact Or.inr (Or.inl (k 1 h))
  · exact Or.inr (Or.inr (Or.inl (k 2 h)))
  · exact Or.inr (Or.inr (Or.inr (k 3 h)))
theorem own_nb (x : Int32) : nar .byte x.toInt8.toInt32 = x.toInt8.toInt32 := by simp [nar]
theorem ef_rm_law (m : MethodId) (p1 : Int32) (p2 : Int32) (p3 : Int32) (q4 : Int64) (p5 : Int32) : entryFrame m #[(.int p1), (.int p2), (.int p3), (.long q4), (.int p5)] maxLocals = mkF m 0 #[.val (.int p1), .val (.int p2), .val (.int p3), .val (.long q4), .second, .val (.int p5), .unset, .unset, .unset, .unset, .unset] [] := by first | (simp [entryFrame, mkF, argsToLocals, Value.category, maxLocals]; done) | rfl
def K_rm_law  (Z : State) (h0 : Heap) (n0 : Nat) (p1 : Int32) (p2 : Int32) (p3 : Int32) (q4 : Int64) (p5 : Int32) (v : Option Value) (h : Heap) (L : List Loc) : Prop := v = some (.int 1) ∧ Fr n0 L
theorem pd___BIJ_V : parseMethodDescriptor "([BIJ)V" = some ⟨[(.array .byte), .int, .long], none⟩ := by decide +kernel
theorem pd___Z : parseMethodDescriptor "()Z" = some ⟨[], some .boolean⟩ := by decide +kernel
theorem pd___V : parseMethodDescriptor "()V" = some ⟨[], none⟩ := by decide +kernel
theorem pd____B : parseMethodDescriptor "()[B" = some ⟨[], some (.array .byte)⟩ := by decide +kernel
theorem pd___I : parseMethodDescriptor "()I" = some ⟨[], some .int⟩ := by decide +kernel
theorem pd___J : parseMethodDescriptor "()J" = some ⟨[], some .long⟩ := by decide +kernel
theorem pn_com_example_mayfly_mayfly_store_ItemMarkReadPinLaw : plainName "com/example/mayfly/mayfly/store/ItemMarkReadPinLaw" = true := by first | (simp [plainName, overriddenIn]; done) | decide +kernel
set_option maxRecDepth 65536 in
set_option maxHeartbeats 40000000 in
theorem rm_law (l : Launch) (Z : State) (a0 : Array Value) (hw : ∀ d ∈ tables_1, d.before a0 Z = true) (ws : List Jvm.Cond)  (p1 : Int32) (p2 : Int32) (p3 : Int32) (q4 : Int64) (p5 : Int32) (h0 : Heap) (n0 : Nat) (Z0 : n0 ≤ h0.size) :
    MetFree l x (head1 (Jvm.Cond.code x code maxLocals ret :: ws) room_1) (fun a U => a = #[(.int p1), (.int p2), (.int p3), (.long q4), (.int p5)] ∧ Z.Warmed39 U.vm ∧ U.heap = h0) (fun _ _ _ _ _ => True) (fun _ U o U' => ∃ v L, o = .returned v ∧ (K_rm_law  Z h0 n0 p1 p2 p3 q4 p5) v U'.heap L ∧ FrameEnd U o U' L room_1.cells room_1.slots) := by
  refine own_body (plainFor_of_name pn_com_example_mayfly_mayfly_store_ItemMarkReadPinLaw) ?_
  intro p e s m below meth c s₁ hx hby hml hown hnm hret hlk hZ X0 e0
  have hown : s.vm.findClass "com/example/mayfly/mayfly/store/ItemMarkReadPinLaw" = some m.cls := hown
  have N0 := Fr.nil n0
  rw [ef_rm_law m p1 p2 p3 q4 p5]
  refine own_iloadN X0 hx (pc' := 1) rfl (hb hby at_0) rfl ?_
  refine own_iconst X0 hx (v := (3 : Int32)) (pc' := 2) rfl (hb hby at_1) rfl ?_
  refine own_iand X0 hx (v := (p1 &&& (3 : Int32))) (pc' := 3) rfl (hb hby at_2) rfl ?_
  have hn := own_and3 p1
  generalize (p1 &&& (3 : Int32)) = n at hn ⊢
  rcases hn with rfl | rfl | rfl | rfl
  · refine own_newarr X0 hx hZ (aty := .byte) (hw _ (List.mem_of_getElem? (i := 0) rfl)) e0 (pc' := 5) rfl (hb hby at_3) (by decide) (N := 0) (by decide) (cap := 0) (by decide) (by decide) (by decide) (by decide) ?_
    intro T1 h1 X1 e1 E1 A1
    obtain ⟨o1, g1⟩ : ∃ z, z = h0.size := ⟨_, rfl⟩
    rw [← g1] at A1 ⊢
    have ge1 : n0 ≤ o1 := g1 ▸ Z0
    have S2 := Nat.le_trans Z0 E1.1
    refine own_astore X1 hx (Ls' := #[.val (.int p1), .val (.int p2), .val (.int p3), .val (.long q4), .second, .val (.int p5), .val (.ref o1), .unset, .unset, .unset, .unset]) (pc' := 7) rfl (hb hby at_5) rfl rfl ?_
    refine own_aload X1 hx (pc' := 9) rfl (hb hby at_7) rfl rfl ?_
    refine own_len X1 hx hZ e1 A1 (v := (0 : Int32)) (by decide) (pc' := 10) rfl (hb hby at_9) ?_
    refine own_ifT X1 hx (pc' := 19) (hb hby at_10) (XT.i0_le_t (by decide)) (by decide) (by decide) ?_
    refine own_new X1 hx hZ hown (hw _ (List.mem_of_getElem? (i := 1) rfl)) (hw _ (List.mem_of_getElem? (i := 2) rfl)) (hw _ (List.mem_of_getElem? (i := 3) rfl)) e1 (pc' := 22) rfl (hb hby at_19) (by decide) (by decide) ?_
    intro T3 h3 X3 e3 E3 A3 D3
    obtain ⟨o3, g3⟩ : ∃ z, z = h1.size := ⟨_, rfl⟩
    rw [← g3] at A3 D3 ⊢
    have ne3_o1 : o1 ≠ o3 := Nat.ne_of_lt (g3 ▸ (own_Arr.lt A1))
    have ge3 : n0 ≤ o3 := g3 ▸ S2
    have S4 := Nat.le_trans S2 E3.1
    have A5 := own_Arr.ext E3 A1
    have F6 : Fld Z h3 o3 "com/example/mayfly/mayfly/store/Item" "value" "[B" .null := D3 (Or.inr (hw _ (List.mem_of_getElem? (i := 14) rfl))) (ty := (.array .byte)) (by decide)
    have F7 : Fld Z h3 o3 "com/example/mayfly/mayfly/store/Item" "flags" "I" (.int (0 : Int32)) := D3 (Or.inr (hw _ (List.mem_of_getElem? (i := 16) rfl))) (ty := .int) (by decide)
    have F8 : Fld Z h3 o3 "com/example/mayfly/mayfly/store/Item" "deadline" "J" (.long (0 : Int64)) := D3 (Or.inr (hw _ (List.mem_of_getElem? (i := 18) rfl))) (ty := .long) (by decide)
    have F9 : Fld Z h3 o3 "com/example/mayfly/mayfly/store/Item" "cas" "J" (.long (0 : Int64)) := D3 (Or.inr (hw _ (List.mem_of_getElem? (i := 20) rfl))) (ty := .long) (by decide)
    have F10 : Fld Z h3 o3 "com/example/mayfly/mayfly/store/Item" "read" "Z" (.int (0 : Int32)) := D3 (Or.inl (hw _ (List.mem_of_getElem? (i := 22) rfl))) (ty := .boolean) (by decide)
    refine own_dup X3 hx (pc' := 23) rfl (hb hby at_22) rfl ?_
    refine own_aload X3 hx (pc' := 25) rfl (hb hby at_23) rfl rfl ?_
    refine own_iloadN X3 hx (pc' := 26) rfl (hb hby at_25) rfl ?_
    refine own_lloadN X3 hx (pc' := 27) rfl (hb hby at_26) rfl ?_
    refine own_callC X3 hx hZ (y := (⟨"com/example/mayfly/mayfly/store/Item", "<init>", "([BIJ)V"⟩ : MethodName)) rfl hown (hw _ (List.mem_of_getElem? (i := 4) rfl)) (hw _ (List.mem_of_getElem? (i := 5) rfl)) (hw _ (List.mem_of_getElem? (i := 3) rfl)) (hw _ (List.mem_of_getElem? (i := 6) rfl))  (by decide) (rm_item3 l Z a0 hw [] o3 o1 p3 q4 h3 n0 S4 A3 F6 F7 F8 F9 F10 ge3) (by decide) (W := 1) (by decide) (by decide) (by decide) e3 (by rw [hml]; rfl) (argsL := [(.ref o1), (.int p3), (.long q4)]) (rest := [(.ref o3)]) rfl (lenOf pd___BIJ_V rfl) rfl (Nat.le_of_eq rfl) (pc' := 30) rfl (hb hby at_27) ?_
    rintro _ T11 L11 X11 ⟨rfl, N11, K11, G11_0, G11_1, G11_2, G11_3, G11_4, G11_5⟩
    have M11 := Fr.app N0 N11
    obtain ⟨h11, e11⟩ : ∃ z, T11.heap = z := ⟨_, rfl⟩
    rw [e11] at K11 G11_0 G11_1 G11_2 G11_3 G11_4 G11_5
    have S12 := Nat.le_trans S4 K11.1
    have A13 := own_Arr.keep K11 A5 (ninS ne3_o1 nin0)
    have E14 := A3.keep K11
    show own_Goes p e below T11 (mkF m 30 #[.val (.int p1), .val (.int p2), .val (.int p3), .val (.long q4), .second, .val (.int p5), .val (.ref o1), .unset, .unset, .unset, .unset] [(.ref o3)]) (own_Ret s (K_rm_law  Z h0 n0 p1 p2 p3 q4 p5) room_1.cells room_1.slots)
    refine own_astore X11 hx (Ls' := #[.val (.int p1), .val (.int p2), .val (.int p3), .val (.long q4), .second, .val (.int p5), .val (.ref o1), .val (.ref o3), .unset, .unset, .unset]) (pc' := 32) rfl (hb hby at_30) rfl rfl ?_
    refine own_aload X11 hx (pc' := 34) rfl (hb hby at_32) rfl rfl ?_
    refine own_callV X11 hx hZ (y := (⟨"com/example/mayfly/mayfly/store/Item", "wasRead", "()Z"⟩ : MethodName)) hown (hw _ (List.mem_of_getElem? (i := 23) rfl)) (hw _ (List.mem_of_getElem? (i := 24) rfl)) (hw _ (List.mem_of_getElem? (i := 26) rfl)) (hw _ (List.mem_of_getElem? (i := 25) rfl)) (hw _ (List.mem_of_getElem? (i := 3) rfl)) (hw _ (List.mem_of_getElem? (i := 27) rfl)) E14  (by decide) (rm_was l Z a0 hw [] (0 : Int32) o3 h11 n0 S12 E14 G11_5 (by decide)) (by decide) (W := 0) (by decide) (by decide) (by decide) e11 (by rw [hml]; rfl) (argsL := []) (rest := []) rfl (lenOf pd___Z rfl) rfl (Nat.le_of_eq rfl) (pc' := 37) rfl (hb hby at_34) ?_
    rintro _ T20 L20 X20 ⟨rfl, N20, e20⟩
    have M20 := Fr.app M11 N20
    show own_Goes p e below T20 (mkF m 37 #[.val (.int p1), .val (.int p2), .val (.int p3), .val (.long q4), .second, .val (.int p5), .val (.ref o1), .val (.ref o3), .unset, .unset, .unset] [(.int (0 : Int32))]) (own_Ret s (K_rm_law  Z h0 n0 p1 p2 p3 q4 p5) room_1.cells room_1.slots)
    refine own_istore X20 hx (Ls' := #[.val (.int p1), .val (.int p2), .val (.int p3), .val (.long q4), .second, .val (.int p5), .val (.ref o1), .val (.ref o3), .val (.int (0 : Int32)), .unset, .unset]) (pc' := 39) rfl (hb hby at_37) rfl ?_
    refine own_aload X20 hx (pc' := 41) rfl (hb hby at_39) rfl rfl ?_
    refine own_callV X20 hx hZ (y := (⟨"com/example/mayfly/mayfly/store/Item", "markRead", "()V"⟩ : MethodName)) hown (hw _ (List.mem_of_getElem? (i := 28) rfl)) (hw _ (List.mem_of_getElem? (i := 29) rfl)) (hw _ (List.mem_of_getElem? (i := 31) rfl)) (hw _ (List.mem_of_getElem? (i := 30) rfl)) (hw _ (List.mem_of_getElem? (i := 3) rfl)) (hw _ (List.mem_of_getElem? (i := 32) rfl)) E14  (by decide) (rm_mark l Z a0 hw [] o1 p3 q4 (0 : Int64) (0 : Int32) o3 h11 n0 S12 E14 G11_1 G11_2 G11_3 G11_4 G11_5 ge3 (by decide)) (by decide) (W := 0) (by decide) (by decide) (by decide) e20 (by rw [hml]; rfl) (argsL := []) (rest := []) rfl (lenOf pd___V rfl) rfl (Nat.le_of_eq rfl) (pc' := 44) rfl (hb hby at_41) ?_
    rintro _ T21 L21 X21 ⟨rfl, N21, K21, G21_0, G21_1, G21_2, G21_3, G21_4, G21_5⟩
    have M21 := Fr.app M20 N21
    obtain ⟨h21, e21⟩ : ∃ z, T21.heap = z := ⟨_, rfl⟩
    rw [e21] at K21 G21_0 G21_1 G21_2 G21_3 G21_4 G21_5
    have S22 := Nat.le_trans S12 K21.1
    have A23 := own_Arr.keep K21 A13 (ninS ne3_o1 nin0)
    have E24 := E14.keep K21
    have E25 := G11_0.keep K21
    show own_Goes p e below T21 (mkF m 44 #[.val (.int p1), .val (.int p2), .val (.int p3), .val (.long q4), .second, .val (.int p5), .val (.ref o1), .val (.ref o3), .val (.int (0 : Int32)), .unset, .unset] []) (own_Ret s (K_rm_law  Z h0 n0 p1 p2 p3 q4 p5) room_1.cells room_1.slots)
    refine own_aload X21 hx (pc' := 46) rfl (hb hby at_44) rfl rfl ?_
    refine own_callV X21 hx hZ (y := (⟨"com/example/mayfly/mayfly/store/Item", "wasRead", "()Z"⟩ : MethodName)) hown (hw _ (List.mem_of_getElem? (i := 23) rfl)) (hw _ (List.mem_of_getElem? (i := 24) rfl)) (hw _ (List.mem_of_getElem? (i := 26) rfl)) (hw _ (List.mem_of_getElem? (i := 25) rfl)) (hw _ (List.mem_of_getElem? (i := 3) rfl)) (hw _ (List.mem_of_getElem? (i := 27) rfl)) E24  (by decide) (rm_was l Z a0 hw [] (1 : Int32) o3 h21 n0 S22 E24 G21_5 (by decide)) (by decide) (W := 0) (by decide) (by decide) (by decide) e21 (by rw [hml]; rfl) (argsL := []) (rest := []) rfl (lenOf pd___Z rfl) rfl (Nat.le_of_eq rfl) (pc' := 49) rfl (hb hby at_46) ?_
    rintro _ T31 L31 X31 ⟨rfl, N31, e31⟩
    have M31 := Fr.app M21 N31
    show own_Goes p e below T31 (mkF m 49 #[.val (.int p1), .val (.int p2), .val (.int p3), .val (.long q4), .second, .val (.int p5), .val (.ref o1), .val (.ref o3), .val (.int (0 : Int32)), .unset, .unset] [(.int (1 : Int32))]) (own_Ret s (K_rm_law  Z h0 n0 p1 p2 p3 q4 p5) room_1.cells room_1.slots)
    refine own_istore X31 hx (Ls' := #[.val (.int p1), .val (.int p2), .val (.int p3), .val (.long q4), .second, .val (.int p5), .val (.ref o1), .val (.ref o3), .val (.int (0 : Int32)), .val (.int (1 : Int32)), .unset]) (pc' := 51) rfl (hb hby at_49) rfl ?_
    refine own_iload X31 hx (pc' := 53) rfl (hb hby at_51) rfl ?_
    refine own_iconst X31 hx (v := (1 : Int32)) (pc' := 54) rfl (hb hby at_53) rfl ?_
    refine own_iand X31 hx (v := (p5 &&& (1 : Int32))) (pc' := 55) rfl (hb hby at_54) rfl ?_
    by_cases c55_32 : (p5 &&& (1 : Int32)) = 0
    · refine own_ifT X31 hx (pc' := 63) (hb hby at_55) (XT.i0_eq_t c55_32) (by decide) (by decide) ?_
      refine own_aload X31 hx (pc' := 65) rfl (hb hby at_63) rfl rfl ?_
      refine own_callV X31 hx hZ (y := (⟨"com/example/mayfly/mayfly/store/Item", "wasRead", "()Z"⟩ : MethodName)) hown (hw _ (List.mem_of_getElem? (i := 23) rfl)) (hw _ (List.mem_of_getElem? (i := 24) rfl)) (hw _ (List.mem_of_getElem? (i := 26) rfl)) (hw _ (List.mem_of_getElem? (i := 25) rfl)) (hw _ (List.mem_of_getElem? (i := 3) rfl)) (hw _ (List.mem_of_getElem? (i := 27) rfl)) E24  (by decide) (rm_was l Z a0 hw [] (1 : Int32) o3 h21 n0 S22 E24 G21_5 (by decide)) (by decide) (W := 0) (by decide) (by decide) (by decide) e31 (by rw [hml]; rfl) (argsL := []) (rest := []) rfl (lenOf pd___Z rfl) rfl (Nat.le_of_eq rfl) (pc' := 68) rfl (hb hby at_65) ?_
      rintro _ T33 L33 X33 ⟨rfl, N33, e33⟩
      have M33 := Fr.app M31 N33
      show own_Goes p e below T33 (mkF m 68 #[.val (.int p1), .val (.int p2), .val (.int p3), .val (.long q4), .second, .val (.int p5), .val (.ref o1), .val (.ref o3), .val (.int (0 : Int32)), .val (.int (1 : Int32)), .unset] [(.int (1 : Int32))]) (own_Ret s (K_rm_law  Z h0 n0 p1 p2 p3 q4 p5) room_1.cells room_1.slots)
      refine own_istore X33 hx (Ls' := #[.val (.int p1), .val (.int p2), .val (.int p3), .val (.long q4), .second, .val (.int p5), .val (.ref o1), .val (.ref o3), .val (.int (0 : Int32)), .val (.int (1 : Int32)), .val (.int (1 : Int32))]) (pc' := 70) rfl (hb hby at_68) rfl ?_
      refine own_iload X33 hx (pc' := 72) rfl (hb hby at_70) rfl ?_
      refine own_ifF X33 hx (pc' := 75) rfl (hb hby at_72) (XT.i0_ne_f (by decide)) ?_
      refine own_iload X33 hx (pc' := 77) rfl (hb hby at_75) rfl ?_
      refine own_ifF X33 hx (pc' := 80) rfl (hb hby at_77) (XT.i0_eq_f (by decide)) ?_
      refine own_iload X33 hx (pc' := 82) rfl (hb hby at_80) rfl ?_
      refine own_ifF X33 hx (pc' := 85) rfl (hb hby at_82) (XT.i0_eq_f (by decide)) ?_
      refine own_aload X33 hx (pc' := 87) rfl (hb hby at_85) rfl rfl ?_
      refine own_callV X33 hx hZ (y := (⟨"com/example/mayfly/mayfly/store/Item", "value", "()[B"⟩ : MethodName)) hown (hw _ (List.mem_of_getElem? (i := 33) rfl)) (hw _ (List.mem_of_getElem? (i := 34) rfl)) (hw _ (List.mem_of_getElem? (i := 36) rfl)) (hw _ (List.mem_of_getElem? (i := 35) rfl)) (hw _ (List.mem_of_getElem? (i := 3) rfl)) (hw _ (List.mem_of_getElem? (i := 37) rfl)) E24  (by decide) (rm_val l Z a0 hw [] o1 o3 h21 n0 S22 E24 G21_1) (by decide) (W := 0) (by decide) (by decide) (by decide) e33 (by rw [hml]; rfl) (argsL := []) (rest := []) rfl (lenOf pd____B rfl) rfl (Nat.le_of_eq rfl) (pc' := 90) rfl (hb hby at_87) ?_
      rintro _ T34 L34 X34 ⟨rfl, N34, e34⟩
      have M34 := Fr.app M33 N34
      show own_Goes p e below T34 (mkF m 90 #[.val (.int p1), .val (.int p2), .val (.int p3), .val (.long q4), .second, .val (.int p5), .val (.ref o1), .val (.ref o3), .val (.int (0 : Int32)), .val (.int (1 : Int32)), .val (.int (1 : Int32))] [(.ref o1)]) (own_Ret s (K_rm_law  Z h0 n0 p1 p2 p3 q4 p5) room_1.cells room_1.slots)
      refine own_aload X34 hx (pc' := 92) rfl (hb hby at_90) rfl rfl ?_
      refine own_acmpF X34 hx (pc' := 95) rfl (hb hby at_92) rfl rfl (XT.aa_ne_f rfl) ?_
      refine own_aload X34 hx (pc' := 97) rfl (hb hby at_95) rfl rfl ?_
      refine own_len X34 hx hZ e34 A23 (v := (0 : Int32)) (by decide) (pc' := 98) rfl (hb hby at_97) ?_
      refine own_ifT X34 hx (pc' := 110) (hb hby at_98) (XT.i0_eq_t (by decide)) (by decide) (by decide) ?_
      refine own_aload X34 hx (pc' := 112) rfl (hb hby at_110) rfl rfl ?_
      refine own_callV X34 hx hZ (y := (⟨"com/example/mayfly/mayfly/store/Item", "flags", "()I"⟩ : MethodName)) hown (hw _ (List.mem_of_getElem? (i := 38) rfl)) (hw _ (List.mem_of_getElem? (i := 39) rfl)) (hw _ (List.mem_of_getElem? (i := 41) rfl)) (hw _ (List.mem_of_getElem? (i := 40) rfl)) (hw _ (List.mem_of_getElem? (i := 3) rfl)) (hw _ (List.mem_of_getElem? (i := 42) rfl)) E24  (by decide) (rm_flg l Z a0 hw [] p3 o3 h21 n0 S22 E24 G21_2) (by decide) (W := 0) (by decide) (by decide) (by decide) e34 (by rw [hml]; rfl) (argsL := []) (rest := []) rfl (lenOf pd___I rfl) rfl (Nat.le_of_eq rfl) (pc' := 115) rfl (hb hby at_112) ?_
      rintro _ T35 L35 X35 ⟨rfl, N35, e35⟩
      have M35 := Fr.app M34 N35
      show own_Goes p e below T35 (mkF m 115 #[.val (.int p1), .val (.int p2), .val (.int p3), .val (.long q4), .second, .val (.int p5), .val (.ref o1), .val (.ref o3), .val (.int (0 : Int32)), .val (.int (1 : Int32)), .val (.int (1 : Int32))] [(.int p3)]) (own_Ret s (K_rm_law  Z h0 n0 p1 p2 p3 q4 p5) room_1.cells room_1.slots)
      refine own_iloadN X35 hx (pc' := 116) rfl (hb hby at_115) rfl ?_
      refine own_icmpF X35 hx (pc' := 119) rfl (hb hby at_116) (XT.ii_ne_f rfl) ?_
      refine own_aload X35 hx (pc' := 121) rfl (hb hby at_119) rfl rfl ?_
      refine own_callV X35 hx hZ (y := (⟨"com/example/mayfly/mayfly/store/Item", "deadline", "()J"⟩ : MethodName)) hown (hw _ (List.mem_of_getElem? (i := 43) rfl)) (hw _ (List.mem_of_getElem? (i := 44) rfl)) (hw _ (List.mem_of_getElem? (i := 46) rfl)) (hw _ (List.mem_of_getElem? (i := 45) rfl)) (hw _ (List.mem_of_getElem? (i := 3) rfl)) (hw _ (List.mem_of_getElem? (i := 47) rfl)) E24  (by decide) (rm_ddl l Z a0 hw [] q4 o3 h21 n0 S22 E24 G21_3) (by decide) (W := 0) (by decide) (by decide) (by decide) e35 (by rw [hml]; rfl) (argsL := []) (rest := []) rfl (lenOf pd___J rfl) rfl (Nat.le_of_eq rfl) (pc' := 124) rfl (hb hby at_121) ?_
      rintro _ T36 L36 X36 ⟨rfl, N36, e36⟩
      have M36 := Fr.app M35 N36
      show own_Goes p e below T36 (mkF m 124 #[.val (.int p1), .val (.int p2), .val (.int p3), .val (.long q4), .second, .val (.int p5), .val (.ref o1), .val (.ref o3), .val (.int (0 : Int32)), .val (.int (1 : Int32)), .val (.int (1 : Int32))] [(.long q4)]) (own_Ret s (K_rm_law  Z h0 n0 p1 p2 p3 q4 p5) room_1.cells room_1.slots)
      refine own_lloadN X36 hx (pc' := 125) rfl (hb hby at_124) rfl ?_
      refine own_lcmp X36 hx (pc' := 126) rfl (hb hby at_125) ?_
      refine own_ifF X36 hx (pc' := 129) rfl (hb hby at_126) (XT.ll_ne_f rfl) ?_
      refine own_aload X36 hx (pc' := 131) rfl (hb hby at_129) rfl rfl ?_
      refine own_callV X36 hx hZ (y := (⟨"com/example/mayfly/mayfly/store/Item", "cas", "()J"⟩ : MethodName)) hown (hw _ (List.mem_of_getElem? (i := 48) rfl)) (hw _ (List.mem_of_getElem? (i := 49) rfl)) (hw _ (List.mem_of_getElem? (i := 51) rfl)) (hw _ (List.mem_of_getElem? (i := 50) rfl)) (hw _ (List.mem_of_getElem? (i := 3) rfl)) (hw _ (List.mem_of_getElem? (i := 52) rfl)) E24  (by decide) (rm_cas l Z a0 hw [] (0 : Int64) o3 h21 n0 S22 E24 G21_4) (by decide) (W := 0) (by decide) (by decide) (by decide) e36 (by rw [hml]; rfl) (argsL := []) (rest := []) rfl (lenOf pd___J rfl) rfl (Nat.le_of_eq rfl) (pc' := 134) rfl (hb hby at_131) ?_
      rintro _ T37 L37 X37 ⟨rfl, N37, e37⟩
      have M37 := Fr.app M36 N37
      show own_Goes p e below T37 (mkF m 134 #[.val (.int p1), .val (.int p2), .val (.int p3), .val (.long q4), .second, .val (.int p5), .val (.ref o1), .val (.ref o3), .val (.int (0 : Int32)), .val (.int (1 : Int32)), .val (.int (1 : Int32))] [(.long (0 : Int64))]) (own_Ret s (K_rm_law  Z h0 n0 p1 p2 p3 q4 p5) room_1.cells room_1.slots)
      refine own_lconst X37 hx (v := (0 : Int64)) (pc' := 135) rfl (hb hby at_134) rfl ?_
      refine own_lcmp X37 hx (pc' := 136) rfl (hb hby at_135) ?_
      refine own_ifF X37 hx (pc' := 139) rfl (hb hby at_136) (XT.ll_ne_f rfl) ?_
      refine own_iconst X37 hx (v := (1 : Int32)) (pc' := 140) rfl (hb hby at_139) rfl ?_
      refine own_goto X37 hx (pc' := 144) (hb hby at_140) (by decide) (by decide) ?_
      refine own_zret X37 hx hlk hret (by simp) (hb hby at_144) (by decide) (by decide) ?_
      rw [e37]
      exact ⟨rfl, M37⟩
    · refine own_ifF X31 hx (pc' := 58) rfl (hb hby at_55) (XT.i0_eq_f c55_32) ?_
      refine own_aload X31 hx (pc' := 60) rfl (hb hby at_58) rfl rfl ?_
      refine own_callV X31 hx hZ (y := (⟨"com/example/mayfly/mayfly/store/Item", "markRead", "()V"⟩ : MethodName)) hown (hw _ (List.mem_of_getElem? (i := 28) rfl)) (hw _ (List.mem_of_getElem? (i := 29) rfl)) (hw _ (List.mem_of_getElem? (i := 31) rfl)) (hw _ (List.mem_of_getElem? (i := 30) rfl)) (hw _ (List.mem_of_getElem? (i := 3) rfl)) (hw _ (List.mem_of_getElem? (i := 32) rfl)) E24  (by decide) (rm_mark l Z a0 hw [] o1 p3 q4 (0 : Int64) (1 : Int32) o3 h21 n0 S22 E24 G21_1 G21_2 G21_3 G21_4 G21_5 ge3 (by decide)) (by decide) (W := 0) (by decide) (by decide) (by decide) e31 (by rw [hml]; rfl) (argsL := []) (rest := []) rfl (lenOf pd___V rfl) rfl (Nat.le_of_eq rfl) (pc' := 63) rfl (hb hby at_60) ?_
      rintro _ T38 L38 X38 ⟨rfl, N38, K38, G38_0, G38_1, G38_2, G38_3, G38_4, G38_5⟩
      have M38 := Fr.app M31 N38
      obtain ⟨h38, e38⟩ : ∃ z, T38.heap = z := ⟨_, rfl⟩
      rw [e38] at K38 G38_0 G38_1 G38_2 G38_3 G38_4 G38_5
      have S39 := Nat.le_trans S22 K38.1
      have A40 := own_Arr.keep K38 A23 (ninS ne3_o1 nin0)
      have E41 := E24.keep K38
      have E42 := E25.keep K38
      have E43 := G21_0.keep K38
      show own_Goes p e below T38 (mkF m 63 #[.val (.int p1), .val (.int p2), .val (.int p3), .val (.long q4), .second, .val (.int p5), .val (.ref o1), .val (.ref o3), .val (.int (0 : Int32)), .val (.int (1 : Int32)), .unset] []) (own_Ret s (K_rm_law  Z h0 n0 p1 p2 p3 q4 p5) room_1.cells room_1.slots)
      refine own_aload X38 hx (pc' := 65) rfl (hb hby at_63) rfl rfl ?_
      refine own_callV X38 hx hZ (y := (⟨"com/example/mayfly/mayfly/store/Item", "wasRead", "()Z"⟩ : MethodName)) hown (hw _ (List.mem_of_getElem? (i := 23) rfl)) (hw _ (List.mem_of_getElem? (i := 24) rfl)) (hw _ (List.mem_of_getElem? (i := 26) rfl)) (hw _ (List.mem_of_getElem? (i := 25) rfl)) (hw _ (List.mem_of_getElem? (i := 3) rfl)) (hw _ (List.mem_of_getElem? (i := 27) rfl)) E41  (by decide) (rm_was l Z a0 hw [] (1 : Int32) o3 h38 n0 S39 E41 G38_5 (by decide)) (by decide) (W := 0) (by decide) (by decide) (by decide) e38 (by rw [hml]; rfl) (argsL := []) (rest := []) rfl (lenOf pd___Z rfl) rfl (Nat.le_of_eq rfl) (pc' := 68) rfl (hb hby at_65) ?_
      rintro _ T49 L49 X49 ⟨rfl, N49, e49⟩
      have M49 := Fr.app M38 N49
      show own_Goes p e below T49 (mkF m 68 #[.val (.int p1), .val (.int p2), .val (.int p3), .val (.long q4), .second, .val (.int p5), .val (.ref o1), .val (.ref o3), .val (.int (0 : Int32)), .val (.int (1 : Int32)), .unset] [(.int (1 : Int32))]) (own_Ret s (K_rm_law  Z h0 n0 p1 p2 p3 q4 p5) room_1.cells room_1.slots)
      refine own_istore X49 hx (Ls' := #[.val (.int p1), .val (.int p2), .val (.int p3), .val (.long q4), .second, .val (.int p5), .val (.ref o1), .val (.ref o3), .val (.int (0 : Int32)), .val (.int (1 : Int32)), .val (.int (1 : Int32))]) (pc' := 70) rfl (hb hby at_68) rfl ?_
      refine own_iload X49 hx (pc' := 72) rfl (hb hby at_70) rfl ?_
      refine own_ifF X49 hx (pc' := 75) rfl (hb hby at_72) (XT.i0_ne_f (by decide)) ?_
      refine own_iload X49 hx (pc' := 77) rfl (hb hby at_75) rfl ?_
      refine own_ifF X49 hx (pc' := 80) rfl (hb hby at_77) (XT.i0_eq_f (by decide)) ?_
      refine own_iload X49 hx (pc' := 82) rfl (hb hby at_80) rfl ?_
      refine own_ifF X49 hx (pc' := 85) rfl (hb hby at_82) (XT.i0_eq_f (by decide)) ?_
      refine own_aload X49 hx (pc' := 87) rfl (hb hby at_85) rfl rfl ?_
      refine own_callV X49 hx hZ (y := (⟨"com/example/mayfly/mayfly/store/Item", "value", "()[B"⟩ : MethodName)) hown (hw _ (List.mem_of_getElem? (i := 33) rfl)) (hw _ (List.mem_of_getElem? (i := 34) rfl)) (hw _ (List.mem_of_getElem? (i := 36) rfl)) (hw _ (List.mem_of_getElem? (i := 35) rfl)) (hw _ (List.mem_of_getElem? (i := 3) rfl)) (hw _ (List.mem_of_getElem? (i := 37) rfl)) E41  (by decide) (rm_val l Z a0 hw [] o1 o3 h38 n0 S39 E41 G38_1) (by decide) (W := 0) (by decide) (by decide) (by decide) e49 (by rw [hml]; rfl) (argsL := []) (rest := []) rfl (lenOf pd____B rfl) rfl (Nat.le_of_eq rfl) (pc' := 90) rfl (hb hby at_87) ?_
      rintro _ T50 L50 X50 ⟨rfl, N50, e50⟩
      have M50 := Fr.app M49 N50
      show own_Goes p e below T50 (mkF m 90 #[.val (.int p1), .val (.int p2), .val (.int p3), .val (.long q4), .second, .val (.int p5), .val (.ref o1), .val (.ref o3), .val (.int (0 : Int32)), .val (.int (1 : Int32)), .val (.int (1 : Int32))] [(.ref o1)]) (own_Ret s (K_rm_law  Z h0 n0 p1 p2 p3 q4 p5) room_1.cells room_1.slots)
      refine own_aload X50 hx (pc' := 92) rfl (hb hby at_90) rfl rfl ?_
      refine own_acmpF X50 hx (pc' := 95) rfl (hb hby at_92) rfl rfl (XT.aa_ne_f rfl) ?_
      refine own_aload X50 hx (pc' := 97) rfl (hb hby at_95) rfl rfl ?_
      refine own_len X50 hx hZ e50 A40 (v := (0 : Int32)) (by decide) (pc' := 98) rfl (hb hby at_97) ?_
      refine own_ifT X50 hx (pc' := 110) (hb hby at_98) (XT.i0_eq_t (by decide)) (by decide) (by decide) ?_
      refine own_aload X50 hx (pc' := 112) rfl (hb hby at_110) rfl rfl ?_
      refine own_callV X50 hx hZ (y := (⟨"com/example/mayfly/mayfly/store/Item", "flags", "()I"⟩ : MethodName)) hown (hw _ (List.mem_of_getElem? (i := 38) rfl)) (hw _ (List.mem_of_getElem? (i := 39) rfl)) (hw _ (List.mem_of_getElem? (i := 41) rfl)) (hw _ (List.mem_of_getElem? (i := 40) rfl)) (hw _ (List.mem_of_getElem? (i := 3) rfl)) (hw _ (List.mem_of_getElem? (i := 42) rfl)) E41  (by decide) (rm_flg l Z a0 hw [] p3 o3 h38 n0 S39 E41 G38_2) (by decide) (W := 0) (by decide) (by decide) (by decide) e50 (by rw [hml]; rfl) (argsL := []) (rest := []) rfl (lenOf pd___I rfl) rfl (Nat.le_of_eq rfl) (pc' := 115) rfl (hb hby at_112) ?_
      rintro _ T51 L51 X51 ⟨rfl, N51, e51⟩
      have M51 := Fr.app M50 N51
      show own_Goes p e below T51 (mkF m 115 #[.val (.int p1), .val (.int p2), .val (.int p3), .val (.long q4), .second, .val (.int p5), .val (.ref o1), .val (.ref o3), .val (.int (0 : Int32)), .val (.int (1 : Int32)), .val (.int (1 : Int32))] [(.int p3)]) (own_Ret s (K_rm_law  Z h0 n0 p1 p2 p3 q4 p5) room_1.cells room_1.slots)
      refine own_iloadN X51 hx (pc' := 116) rfl (hb hby at_115) rfl ?_
      refine own_icmpF X51 hx (pc' := 119) rfl (hb hby at_116) (XT.ii_ne_f rfl) ?_
      refine own_aload X51 hx (pc' := 121) rfl (hb hby at_119) rfl rfl ?_
      refine own_callV X51 hx hZ (y := (⟨"com/example/mayfly/mayfly/store/Item", "deadline", "()J"⟩ : MethodName)) hown (hw _ (List.mem_of_getElem? (i := 43) rfl)) (hw _ (List.mem_of_getElem? (i := 44) rfl)) (hw _ (List.mem_of_getElem? (i := 46) rfl)) (hw _ (List.mem_of_getElem? (i := 45) rfl)) (hw _ (List.mem_of_getElem? (i := 3) rfl)) (hw _ (List.mem_of_getElem? (i := 47) rfl)) E41  (by decide) (rm_ddl l Z a0 hw [] q4 o3 h38 n0 S39 E41 G38_3) (by decide) (W := 0) (by decide) (by decide) (by decide) e51 (by rw [hml]; rfl) (argsL := []) (rest := []) rfl (lenOf pd___J rfl) rfl (Nat.le_of_eq rfl) (pc' := 124) rfl (hb hby at_121) ?_
      rintro _ T52 L52 X52 ⟨rfl, N52, e52⟩
      have M52 := Fr.app M51 N52
      show own_Goes p e below T52 (mkF m 124 #[.val (.int p1), .val (.int p2), .val (.int p3), .val (.long q4), .second, .val (.int p5), .val (.ref o1), .val (.ref o3), .val (.int (0 : Int32)), .val (.int (1 : Int32)), .val (.int (1 : Int32))] [(.long q4)]) (own_Ret s (K_rm_law  Z h0 n0 p1 p2 p3 q4 p5) room_1.cells room_1.slots)
      refine own_lloadN X52 hx (pc' := 125) rfl (hb hby at_124) rfl ?_
      refine own_lcmp X52 hx (pc' := 126) rfl (hb hby at_125) ?_
      refine own_ifF X52 hx (pc' := 129) rfl (hb hby at_126) (XT.ll_ne_f rfl) ?_
      refine own_aload X52 hx (pc' := 131) rfl (hb hby at_129) rfl rfl ?_
      refine own_callV X52 hx hZ (y := (⟨"com/example/mayfly/mayfly/store/Item", "cas", "()J"⟩ : MethodName)) hown (hw _ (List.mem_of_getElem? (i := 48) rfl)) (hw _ (List.mem_of_getElem? (i := 49) rfl)) (hw _ (List.mem_of_getElem? (i := 51) rfl)) (hw _ (List.mem_of_getElem? (i := 50) rfl)) (hw _ (List.mem_of_getElem? (i := 3) rfl)) (hw _ (List.mem_of_getElem? (i := 52) rfl)) E41  (by decide) (rm_cas l Z a0 hw [] (0 : Int64) o3 h38 n0 S39 E41 G38_4) (by decide) (W := 0) (by decide) (by decide) (by decide) e52 (by rw [hml]; rfl) (argsL := []) (rest := []) rfl (lenOf pd___J rfl) rfl (Nat.le_of_eq rfl) (pc' := 134) rfl (hb hby at_131) ?_
      rintro _ T53 L53 X53 ⟨rfl, N53, e53⟩
      have M53 := Fr.app M52 N53
      show own_Goes p e below T53 (mkF m 134 #[.val (.int p1), .val (.int p2), .val (.int p3), .val (.long q4), .second, .val (.int p5), .val (.ref o1), .val (.ref o3), .val (.int (0 : Int32)), .val (.int (1 : Int32)), .val (.int (1 : Int32))] [(.long (0 : Int64))]) (own_Ret s (K_rm_law  Z h0 n0 p1 p2 p3 q4 p5) room_1.cells room_1.slots)
      refine own_lconst X53 hx (v := (0 : Int64)) (pc' := 135) rfl (hb hby at_134) rfl ?_
      refine own_lcmp X53 hx (pc' := 136) rfl (hb hby at_135) ?_
      refine own_ifF X53 hx (pc' := 139) rfl (hb hby at_136) (XT.ll_ne_f rfl) ?_
      refine own_iconst X53 hx (v := (1 : Int32)) (pc' := 140) rfl (hb hby at_139) rfl ?_
      refine own_goto X53 hx (pc' := 144) (hb hby at_140) (by decide) (by decide) ?_
      refine own_zret X53 hx hlk hret (by simp) (hb hby at_144) (by decide) (by decide) ?_
      rw [e53]
      exact ⟨rfl, M53⟩
  · refine own_newarr X0 hx hZ (aty := .byte) (hw _ (List.mem_of_getElem? (i := 0) rfl)) e0 (pc' := 5) rfl (hb hby at_3) (by decide) (N := 1) (by decide) (cap := 1) (by decide) (by decide) (by decide) (by decide) ?_
    intro T54 h54 X54 e54 E54 A54
    obtain ⟨o54, g54⟩ : ∃ z, z = h0.size := ⟨_, rfl⟩
    rw [← g54] at A54 ⊢
    have ge54 : n0 ≤ o54 := g54 ▸ Z0
    have S55 := Nat.le_trans Z0 E54.1
    refine own_astore X54 hx (Ls' := #[.val (.int p1), .val (.int p2), .val (.int p3), .val (.long q4), .second, .val (.int p5), .val (.ref o54), .unset, .unset, .unset, .unset]) (pc' := 7) rfl (hb hby at_5) rfl rfl ?_
    refine own_aload X54 hx (pc' := 9) rfl (hb hby at_7) rfl rfl ?_
    refine own_len X54 hx hZ e54 A54 (v := (1 : Int32)) (by decide) (pc' := 10) rfl (hb hby at_9) ?_
    refine own_ifF X54 hx (pc' := 13) rfl (hb hby at_10) (XT.i0_le_f (by decide)) ?_
    refine own_aload X54 hx (pc' := 15) rfl (hb hby at_13) rfl rfl ?_
    refine own_iconst X54 hx (v := (0 : Int32)) (pc' := 16) rfl (hb hby at_15) rfl ?_
    refine own_iloadN X54 hx (pc' := 17) rfl (hb hby at_16) rfl ?_
    refine own_i2b X54 hx (v := ((p2).toInt8.toInt32)) (pc' := 18) rfl (hb hby at_17) rfl ?_
    refine own_stB X54 hx hZ e54 A54 (k := 0) (by decide) (by decide) (by decide) (own_nb p2) (pc' := 19) rfl (hb hby at_18) ?_
    intro T56 h56 X56 e56 W56 A56
    have S57 := own_sizWr W56 S55
    have N56 := Fr.snoc X56 N0 ge54
    refine own_new X56 hx hZ hown (hw _ (List.mem_of_getElem? (i := 1) rfl)) (hw _ (List.mem_of_getElem? (i := 2) rfl)) (hw _ (List.mem_of_getElem? (i := 3) rfl)) e56 (pc' := 22) rfl (hb hby at_19) (by decide) (by decide) ?_
    intro T59 h59 X59 e59 E59 A59 D59
    obtain ⟨o59, g59⟩ : ∃ z, z = h56.size := ⟨_, rfl⟩
    rw [← g59] at A59 D59 ⊢
    have ne59_o54 : o54 ≠ o59 := Nat.ne_of_lt (g59 ▸ (own_Arr.lt A56))
    have ge59 : n0 ≤ o59 := g59 ▸ S57
    have S60 := Nat.le_trans S57 E59.1
    have A61 := own_Arr.ext E59 A56
    have F62 : Fld Z h59 o59 "com/example/mayfly/mayfly/store/Item" "value" "[B" .null := D59 (Or.inr (hw _ (List.mem_of_getElem? (i := 14) rfl))) (ty := (.array .byte)) (by decide)
    have F63 : Fld Z h59 o59 "com/example/mayfly/mayfly/store/Item" "flags" "I" (.int (0 : Int32)) := D59 (Or.inr (hw _ (List.mem_of_getElem? (i := 16) rfl))) (ty := .int) (by decide)
    have F64 : Fld Z h59 o59 "com/example/mayfly/mayfly/store/Item" "deadline" "J" (.long (0 : Int64)) := D59 (Or.inr (hw _ (List.mem_of_getElem? (i := 18) rfl))) (ty := .long) (by decide)
    have F65 : Fld Z h59 o59 "com/example/mayfly/mayfly/store/Item" "cas" "J" (.long (0 : Int64)) := D59 (Or.inr (hw _ (List.mem_of_getElem? (i := 20) rfl))) (ty := .long) (by decide)
    have F66 : Fld Z h59 o59 "com/example/mayfly/mayfly/store/Item" "read" "Z" (.int (0 : Int32)) := D59 (Or.inl (hw _ (List.mem_of_getElem? (i := 22) rfl))) (ty := .boolean) (by decide)
    refine own_dup X59 hx (pc' := 23) rfl (hb hby at_22) rfl ?_
    refine own_aload X59 hx (pc' := 25) rfl (hb hby at_23) rfl rfl ?_
    refine own_iloadN X59 hx (pc' := 26) rfl (hb hby at_25) rfl ?_
    refine own_lloadN X59 hx (pc' := 27) rfl (hb hby at_26) rfl ?_
    refine own_callC X59 hx hZ (y := (⟨"com/example/mayfly/mayfly/store/Item", "<init>", "([BIJ)V"⟩ : MethodName)) rfl hown (hw _ (List.mem_of_getElem? (i := 4) rfl)) (hw _ (List.mem_of_getElem? (i := 5) rfl)) (hw _ (List.mem_of_getElem? (i := 3) rfl)) (hw _ (List.mem_of_getElem? (i := 6) rfl))  (by decide) (rm_item3 l Z a0 hw [] o59 o54 p3 q4 h59 n0 S60 A59 F62 F63 F64 F65 F66 ge59) (by decide) (W := 1) (by decide) (by decide) (by decide) e59 (by rw [hml]; rfl) (argsL := [(.ref o54), (.int p3), (.long q4)]) (rest := [(.ref o59)]) rfl (lenOf pd___BIJ_V rfl) rfl (Nat.le_of_eq rfl) (pc' := 30) rfl (hb hby at_27) ?_
    rintro _ T67 L67 X67 ⟨rfl, N67, K67, G67_0, G67_1, G67_2, G67_3, G67_4, G67_5⟩
    have M67 := Fr.app N56 N67
    obtain ⟨h67, e67⟩ : ∃ z, T67.heap = z := ⟨_, rfl⟩
    rw [e67] at K67 G67_0 G67_1 G67_2 G67_3 G67_4 G67_5
    have S68 := Nat.le_trans S60 K67.1
    have A69 := own_Arr.keep K67 A61 (ninS ne59_o54 nin0)
    have E70 := A59.keep K67
    show own_Goes p e below T67 (mkF m 30 #[.val (.int p1), .val (.int p2), .val (.int p3), .val (.long q4), .second, .val (.int p5), .val (.ref o54), .unset, .unset, .unset, .unset] [(.ref o59)]) (own_Ret s (K_rm_law  Z h0 n0 p1 p2 p3 q4 p5) room_1.cells room_1.slots)
    refine own_astore X67 hx (Ls' := #[.val (.int p1), .val (.int p2), .val (.int p3), .val (.long q4), .second, .val (.int p5), .val (.ref o54), .val (.ref o59), .unset, .unset, .unset]) (pc' := 32) rfl (hb hby at_30) rfl rfl ?_
    refine own_aload X67 hx (pc' := 34) rfl (hb hby at_32) rfl rfl ?_
    refine own_callV X67 hx hZ (y := (⟨"com/example/mayfly/mayfly/store/Item", "wasRead", "()Z"⟩ : MethodName)) hown (hw _ (List.mem_of_getElem? (i := 23) rfl)) (hw _ (List.mem_of_getElem? (i := 24) rfl)) (hw _ (List.mem_of_getElem? (i := 26) rfl)) (hw _ (List.mem_of_getElem? (i := 25) rfl)) (hw _ (List.mem_of_getElem? (i := 3) rfl)) (hw _ (List.mem_of_getElem? (i := 27) rfl)) E70  (by decide) (rm_was l Z a0 hw [] (0 : Int32) o59 h67 n0 S68 E70 G67_5 (by decide)) (by decide) (W := 0) (by decide) (by decide) (by decide) e67 (by rw [hml]; rfl) (argsL := []) (rest := []) rfl (lenOf pd___Z rfl) rfl (Nat.le_of_eq rfl) (pc' := 37) rfl (hb hby at_34) ?_
    rintro _ T76 L76 X76 ⟨rfl, N76, e76⟩
    have M76 := Fr.app M67 N76
    show own_Goes p e below T76 (mkF m 37 #[.val (.int p1), .val (.int p2), .val (.int p3), .val (.long q4), .second, .val (.int p5), .val (.ref o54), .val (.ref o59), .unset, .unset, .unset] [(.int (0 : Int32))]) (own_Ret s (K_rm_law  Z h0 n0 p1 p2 p3 q4 p5) room_1.cells room_1.slots)
    refine own_istore X76 hx (Ls' := #[.val (.int p1), .val (.int p2), .val (.int p3), .val (.long q4), .second, .val (.int p5), .val (.ref o54), .val (.ref o59), .val (.int (0 : Int32)), .unset, .unset]) (pc' := 39) rfl (hb hby at_37) rfl ?_
    refine own_aload X76 hx (pc' := 41) rfl (hb hby at_39) rfl rfl ?_
    refine own_callV X76 hx hZ (y := (⟨"com/example/mayfly/mayfly/store/Item", "markRead", "()V"⟩ : MethodName)) hown (hw _ (List.mem_of_getElem? (i := 28) rfl)) (hw _ (List.mem_of_getElem? (i := 29) rfl)) (hw _ (List.mem_of_getElem? (i := 31) rfl)) (hw _ (List.mem_of_getElem? (i := 30) rfl)) (hw _ (List.mem_of_getElem? (i := 3) rfl)) (hw _ (List.mem_of_getElem? (i := 32) rfl)) E70  (by decide) (rm_mark l Z a0 hw [] o54 p3 q4 (0 : Int64) (0 : Int32) o59 h67 n0 S68 E70 G67_1 G67_2 G67_3 G67_4 G67_5 ge59 (by decide)) (by decide) (W := 0) (by decide) (by decide) (by decide) e76 (by rw [hml]; rfl) (argsL := []) (rest := []) rfl (lenOf pd___V rfl) rfl (Nat.le_of_eq rfl) (pc' := 44) rfl (hb hby at_41) ?_
    rintro _ T77 L77 X77 ⟨rfl, N77, K77, G77_0, G77_1, G77_2, G77_3, G77_4, G77_5⟩
    have M77 := Fr.app M76 N77
    obtain ⟨h77, e77⟩ : ∃ z, T77.heap = z := ⟨_, rfl⟩
    rw [e77] at K77 G77_0 G77_1 G77_2 G77_3 G77_4 G77_5
    have S78 := Nat.le_trans S68 K77.1
    have A79 := own_Arr.keep K77 A69 (ninS ne59_o54 nin0)
    have E80 := E70.keep K77
    have E81 := G67_0.keep K77
    show own_Goes p e below T77 (mkF m 44 #[.val (.int p1), .val (.int p2), .val (.int p3), .val (.long q4), .second, .val (.int p5), .val (.ref o54), .val (.ref o59), .val (.int (0 : Int32)), .unset, .unset] []) (own_Ret s (K_rm_law  Z h0 n0 p1 p2 p3 q4 p5) room_1.cells room_1.slots)
    refine own_aload X77 hx (pc' := 46) rfl (hb hby at_44) rfl rfl ?_
    refine own_callV X77 hx hZ (y := (⟨"com/example/mayfly/mayfly/store/Item", "wasRead", "()Z"⟩ : MethodName)) hown (hw _ (List.mem_of_getElem? (i := 23) rfl)) (hw _ (List.mem_of_getElem? (i := 24) rfl)) (hw _ (List.mem_of_getElem? (i := 26) rfl)) (hw _ (List.mem_of_getElem? (i := 25) rfl)) (hw _ (List.mem_of_getElem? (i := 3) rfl)) (hw _ (List.mem_of_getElem? (i := 27) rfl)) E80  (by decide) (rm_was l Z a0 hw [] (1 : Int32) o59 h77 n0 S78 E80 G77_5 (by decide)) (by decide) (W := 0) (by decide) (by decide) (by decide) e77 (by rw [hml]; rfl) (argsL := []) (rest := []) rfl (lenOf pd___Z rfl) rfl (Nat.le_of_eq rfl) (pc' := 49) rfl (hb hby at_46) ?_
    rintro _ T87 L87 X87 ⟨rfl, N87, e87⟩
    have M87 := Fr.app M77 N87
    show own_Goes p e below T87 (mkF m 49 #[.val (.int p1), .val (.int p2), .val (.int p3), .val (.long q4), .second, .val (.int p5), .val (.ref o54), .val (.ref o59), .val (.int (0 : Int32)), .unset, .unset] [(.int (1 : Int32))]) (own_Ret s (K_rm_law  Z h0 n0 p1 p2 p3 q4 p5) room_1.cells room_1.slots)
    refine own_istore X87 hx (Ls' := #[.val (.int p1), .val (.int p2), .val (.int p3), .val (.long q4), .second, .val (.int p5), .val (.ref o54), .val (.ref o59), .val (.int (0 : Int32)), .val (.int (1 : Int32)), .unset]) (pc' := 51) rfl (hb hby at_49) rfl ?_
    refine own_iload X87 hx (pc' := 53) rfl (hb hby at_51) rfl ?_
    refine own_iconst X87 hx (v := (1 : Int32)) (pc' := 54) rfl (hb hby at_53) rfl ?_
    refine own_iand X87 hx (v := (p5 &&& (1 : Int32))) (pc' := 55) rfl (hb hby at_54) rfl ?_
    by_cases c55_88 : (p5 &&& (1 : Int32)) = 0
    · refine own_ifT X87 hx (pc' := 63) (hb hby at_55) (XT.i0_eq_t c55_88) (by decide) (by decide) ?_
      refine own_aload X87 hx (pc' := 65) rfl (hb hby at_63) rfl rfl ?_
      refine own_callV X87 hx hZ (y := (⟨"com/example/mayfly/mayfly/store/Item", "wasRead", "()Z"⟩ : MethodName)) hown (hw _ (List.mem_of_getElem? (i := 23) rfl)) (hw _ (List.mem_of_getElem? (i := 24) rfl)) (hw _ (List.mem_of_getElem? (i := 26) rfl)) (hw _ (List.mem_of_getElem? (i := 25) rfl)) (hw _ (List.mem_of_getElem? (i := 3) rfl)) (hw _ (List.mem_of_getElem? (i := 27) rfl)) E80  (by decide) (rm_was l Z a0 hw [] (1 : Int32) o59 h77 n0 S78 E80 G77_5 (by decide)) (by decide) (W := 0) (by decide) (by decide) (by decide) e87 (by rw [hml]; rfl) (argsL := []) (rest := []) rfl (lenOf pd___Z rfl) rfl (Nat.le_of_eq rfl) (pc' := 68) rfl (hb hby at_65) ?_
      rintro _ T89 L89 X89 ⟨rfl, N89, e89⟩
      have M89 := Fr.app M87 N89
      show own_Goes p e below T89 (mkF m 68 #[.val (.int p1), .val (.int p2), .val (.int p3), .val (.long q4), .second, .val (.int p5), .val (.ref o54), .val (.ref o59), .val (.int (0 : Int32)), .val (.int (1 : Int32)), .unset] [(.int (1 : Int32))]) (own_Ret s (K_rm_law  Z h0 n0 p1 p2 p3 q4 p5) room_1.cells room_1.slots)
      refine own_istore X89 hx (Ls' := #[.val (.int p1), .val (.int p2), .val (.int p3), .val (.long q4), .second, .val (.int p5), .val (.ref o54), .val (.ref o59), .val (.int (0 : Int32)), .val (.int (1 : Int32)), .val (.int (1 : Int32))]) (pc' := 70) rfl (hb hby at_68) rfl ?_
      refine own_iload X89 hx (pc' := 72) rfl (hb hby at_70) rfl ?_
      refine own_ifF X89 hx (pc' := 75) rfl (hb hby at_72) (XT.i0_ne_f (by decide)) ?_
      refine own_iload X89 hx (pc' := 77) rfl (hb hby at_75) rfl ?_
      refine own_ifF X89 hx (pc' := 80) rfl (hb hby at_77) (XT.i0_eq_f (by decide)) ?_
      refine own_iload X89 hx (pc' := 82) rfl (hb hby at_80) rfl ?_
      refine own_ifF X89 hx (pc' := 85) rfl (hb hby at_82) (XT.i0_eq_f (by decide)) ?_
      refine own_aload X89 hx (pc' := 87) rfl (hb hby at_85) rfl rfl ?_
      refine own_callV X89 hx hZ (y := (⟨"com/example/mayfly/mayfly/store/Item", "value", "()[B"⟩ : MethodName)) hown (hw _ (List.mem_of_getElem? (i := 33) rfl)) (hw _ (List.mem_of_getElem? (i := 34) rfl)) (hw _ (List.mem_of_getElem? (i := 36) rfl)) (hw _ (List.mem_of_getElem? (i := 35) rfl)) (hw _ (List.mem_of_getElem? (i := 3) rfl)) (hw _ (List.mem_of_getElem? (i := 37) rfl)) E80  (by decide) (rm_val l Z a0 hw [] o54 o59 h77 n0 S78 E80 G77_1) (by decide) (W := 0) (by decide) (by decide) (by decide) e89 (by rw [hml]; rfl) (argsL := []) (rest := []) rfl (lenOf pd____B rfl) rfl (Nat.le_of_eq rfl) (pc' := 90) rfl (hb hby at_87) ?_
      rintro _ T90 L90 X90 ⟨rfl, N90, e90⟩
      have M90 := Fr.app M89 N90
      show own_Goes p e below T90 (mkF m 90 #[.val (.int p1), .val (.int p2), .val (.int p3), .val (.long q4), .second, .val (.int p5), .val (.ref o54), .val (.ref o59), .val (.int (0 : Int32)), .val (.int (1 : Int32)), .val (.int (1 : Int32))] [(.ref o54)]) (own_Ret s (K_rm_law  Z h0 n0 p1 p2 p3 q4 p5) room_1.cells room_1.slots)
      refine own_aload X90 hx (pc' := 92) rfl (hb hby at_90) rfl rfl ?_
      refine own_acmpF X90 hx (pc' := 95) rfl (hb hby at_92) rfl rfl (XT.aa_ne_f rfl) ?_
      refine own_aload X90 hx (pc' := 97) rfl (hb hby at_95) rfl rfl ?_
      refine own_len X90 hx hZ e90 A79 (v := (1 : Int32)) (by decide) (pc' := 98) rfl (hb hby at_97) ?_
      refine own_ifF X90 hx (pc' := 101) rfl (hb hby at_98) (XT.i0_eq_f (by decide)) ?_
      refine own_aload X90 hx (pc' := 103) rfl (hb hby at_101) rfl rfl ?_
      refine own_iconst X90 hx (v := (0 : Int32)) (pc' := 104) rfl (hb hby at_103) rfl ?_
      refine own_ldB X90 hx hZ e90 A79 (k := 0) (by decide) (by decide) (by decide) (v := (.int ((p2).toInt8.toInt32))) rfl (pc' := 105) rfl (hb hby at_104) ?_
      refine own_iloadN X90 hx (pc' := 106) rfl (hb hby at_105) rfl ?_
      refine own_i2b X90 hx (v := ((p2).toInt8.toInt32)) (pc' := 107) rfl (hb hby at_106) rfl ?_
      refine own_icmpF X90 hx (pc' := 110) rfl (hb hby at_107) (XT.ii_ne_f rfl) ?_
      refine own_aload X90 hx (pc' := 112) rfl (hb hby at_110) rfl rfl ?_
      refine own_callV X90 hx hZ (y := (⟨"com/example/mayfly/mayfly/store/Item", "flags", "()I"⟩ : MethodName)) hown (hw _ (List.mem_of_getElem? (i := 38) rfl)) (hw _ (List.mem_of_getElem? (i := 39) rfl)) (hw _ (List.mem_of_getElem? (i := 41) rfl)) (hw _ (List.mem_of_getElem? (i := 40) rfl)) (hw _ (List.mem_of_getElem? (i := 3) rfl)) (hw _ (List.mem_of_getElem? (i := 42) rfl)) E80  (by decide) (rm_flg l Z a0 hw [] p3 o59 h77 n0 S78 E80 G77_2) (by decide) (W := 0) (by decide) (by decide) (by decide) e90 (by rw [hml]; rfl) (argsL := []) (rest := []) rfl (lenOf pd___I rfl) rfl (Nat.le_of_eq rfl) (pc' := 115) rfl (hb hby at_112) ?_
      rintro _ T91 L91 X91 ⟨rfl, N91, e91⟩
      have M91 := Fr.app M90 N91
      show own_Goes p e below T91 (mkF m 115 #[.val (.int p1), .val (.int p2), .val (.int p3), .val (.long q4), .second, .val (.int p5), .val (.ref o54), .val (.ref o59), .val (.int (0 : Int32)), .val (.int (1 : Int32)), .val (.int (1 : Int32))] [(.int p3)]) (own_Ret s (K_rm_law  Z h0 n0 p1 p2 p3 q4 p5) room_1.cells room_1.slots)
      refine own_iloadN X91 hx (pc' := 116) rfl (hb hby at_115) rfl ?_
      refine own_icmpF X91 hx (pc' := 119) rfl (hb hby at_116) (XT.ii_ne_f rfl) ?_
      refine own_aload X91 hx (pc' := 121) rfl (hb hby at_119) rfl rfl ?_
      refine own_callV X91 hx hZ (y := (⟨"com/example/mayfly/mayfly/store/Item", "deadline", "()J"⟩ : MethodName)) hown (hw _ (List.mem_of_getElem? (i := 43) rfl)) (hw _ (List.mem_of_getElem? (i := 44) rfl)) (hw _ (List.mem_of_getElem? (i := 46) rfl)) (hw _ (List.mem_of_getElem? (i := 45) rfl)) (hw _ (List.mem_of_getElem? (i := 3) rfl)) (hw _ (List.mem_of_getElem? (i := 47) rfl)) E80  (by decide) (rm_ddl l Z a0 hw [] q4 o59 h77 n0 S78 E80 G77_3) (by decide) (W := 0) (by decide) (by decide) (by decide) e91 (by rw [hml]; rfl) (argsL := []) (rest := []) rfl (lenOf pd___J rfl) rfl (Nat.le_of_eq rfl) (pc' := 124) rfl (hb hby at_121) ?_
      rintro _ T92 L92 X92 ⟨rfl, N92, e92⟩
      have M92 := Fr.app M91 N92
      show own_Goes p e below T92 (mkF m 124 #[.val (.int p1), .val (.int p2), .val (.int p3), .val (.long q4), .second, .val (.int p5), .val (.ref o54), .val (.ref o59), .val (.int (0 : Int32)), .val (.int (1 : Int32)), .val (.int (1 : Int32))] [(.long q4)]) (own_Ret s (K_rm_law  Z h0 n0 p1 p2 p3 q4 p5) room_1.cells room_1.slots)
      refine own_lloadN X92 hx (pc' := 125) rfl (hb hby at_124) rfl ?_
      refine own_lcmp X92 hx (pc' := 126) rfl (hb hby at_125) ?_
      refine own_ifF X92 hx (pc' := 129) rfl (hb hby at_126) (XT.ll_ne_f rfl) ?_
      refine own_aload X92 hx (pc' := 131) rfl (hb hby at_129) rfl rfl ?_
      refine own_callV X92 hx hZ (y := (⟨"com/example/mayfly/mayfly/store/Item", "cas", "()J"⟩ : MethodName)) hown (hw _ (List.mem_of_getElem? (i := 48) rfl)) (hw _ (List.mem_of_getElem? (i := 49) rfl)) (hw _ (List.mem_of_getElem? (i := 51) rfl)) (hw _ (List.mem_of_getElem? (i := 50) rfl)) (hw _ (List.mem_of_getElem? (i := 3) rfl)) (hw _ (List.mem_of_getElem? (i := 52) rfl)) E80  (by decide) (rm_cas l Z a0 hw [] (0 : Int64) o59 h77 n0 S78 E80 G77_4) (by decide) (W := 0) (by decide) (by decide) (by decide) e92 (by rw [hml]; rfl) (argsL := []) (rest := []) rfl (lenOf pd___J rfl) rfl (Nat.le_of_eq rfl) (pc' := 134) rfl (hb hby at_131) ?_
      rintro _ T93 L93 X93 ⟨rfl, N93, e93⟩
      have M93 := Fr.app M92 N93
      show own_Goes p e below T93 (mkF m 134 #[.val (.int p1), .val (.int p2), .val (.int p3), .val (.long q4), .second, .val (.int p5), .val (.ref o54), .val (.ref o59), .val (.int (0 : Int32)), .val (.int (1 : Int32)), .val (.int (1 : Int32))] [(.long (0 : Int64))]) (own_Ret s (K_rm_law  Z h0 n0 p1 p2 p3 q4 p5) room_1.cells room_1.slots)
      refine own_lconst X93 hx (v := (0 : Int64)) (pc' := 135) rfl (hb hby at_134) rfl ?_
      refine own_lcmp X93 hx (pc' := 136) rfl (hb hby at_135) ?_
      refine own_ifF X93 hx (pc' := 139) rfl (hb hby at_136) (XT.ll_ne_f rfl) ?_
      refine own_iconst X93 hx (v := (1 : Int32)) (pc' := 140) rfl (hb hby at_139) rfl ?_
      refine own_goto X93 hx (pc' := 144) (hb hby at_140) (by decide) (by decide) ?_
      refine own_zret X93 hx hlk hret (by simp) (hb hby at_144) (by decide) (by decide) ?_
      rw [e93]
      exact ⟨rfl, M93⟩
    · refine own_ifF X87 hx (pc' := 58) rfl (hb hby at_55) (XT.i0_eq_f c55_88) ?_
      refine own_aload X87 hx (pc' := 60) rfl (hb hby at_58) rfl rfl ?_
      refine own_callV X87 hx hZ (y := (⟨"com/example/mayfly/mayfly/store/Item", "markRead", "()V"⟩ : MethodName)) hown (hw _ (List.mem_of_getElem? (i := 28) rfl)) (hw _ (List.mem_of_getElem? (i := 29) rfl)) (hw _ (List.mem_of_getElem? (i := 31) rfl)) (hw _ (List.mem_of_getElem? (i := 30) rfl)) (hw _ (List.mem_of_getElem? (i := 3) rfl)) (hw _ (List.mem_of_getElem? (i := 32) rfl)) E80  (by decide) (rm_mark l Z a0 hw [] o54 p3 q4 (0 : Int64) (1 : Int32) o59 h77 n0 S78 E80 G77_1 G77_2 G77_3 G77_4 G77_5 ge59 (by decide)) (by decide) (W := 0) (by decide) (by decide) (by decide) e87 (by rw [hml]; rfl) (argsL := []) (rest := []) rfl (lenOf pd___V rfl) rfl (Nat.le_of_eq rfl) (pc' := 63) rfl (hb hby at_60) ?_
      rintro _ T94 L94 X94 ⟨rfl, N94, K94, G94_0, G94_1, G94_2, G94_3, G94_4, G94_5⟩
      have M94 := Fr.app M87 N94
      obtain ⟨h94, e94⟩ : ∃ z, T94.heap = z := ⟨_, rfl⟩
      rw [e94] at K94 G94_0 G94_1 G94_2 G94_3 G94_4 G94_5
      have S95 := Nat.le_trans S78 K94.1
      have A96 := own_Arr.keep K94 A79 (ninS ne59_o54 nin0)
      have E97 := E80.keep K94
      have E98 := E81.keep K94
      have E99 := G77_0.keep K94
      show own_Goes p e below T94 (mkF m 63 #[.val (.int p1), .val (.int p2), .val (.int p3), .val (.long q4), .second, .val (.int p5), .val (.ref o54), .val (.ref o59), .val (.int (0 : Int32)), .val (.int (1 : Int32)), .unset] []) (own_Ret s (K_rm_law  Z h0 n0 p1 p2 p3 q4 p5) room_1.cells room_1.slots)
      refine own_aload X94 hx (pc' := 65) rfl (hb hby at_63) rfl rfl ?_
      refine own_callV X94 hx hZ (y := (⟨"com/example/mayfly/mayfly/store/Item", "wasRead", "()Z"⟩ : MethodName)) hown (hw _ (List.mem_of_getElem? (i := 23) rfl)) (hw _ (List.mem_of_getElem? (i := 24) rfl)) (hw _ (List.mem_of_getElem? (i := 26) rfl)) (hw _ (List.mem_of_getElem? (i := 25) rfl)) (hw _ (List.mem_of_getElem? (i := 3) rfl)) (hw _ (List.mem_of_getElem? (i := 27) rfl)) E97  (by decide) (rm_was l Z a0 hw [] (1 : Int32) o59 h94 n0 S95 E97 G94_5 (by decide)) (by decide) (W := 0) (by decide) (by decide) (by decide) e94 (by rw [hml]; rfl) (argsL := []) (rest := []) rfl (lenOf pd___Z rfl) rfl (Nat.le_of_eq rfl) (pc' := 68) rfl (hb hby at_65) ?_
      rintro _ T105 L105 X105 ⟨rfl, N105, e105⟩
      have M105 := Fr.app M94 N105
      show own_Goes p e below T105 (mkF m 68 #[.val (.int p1), .val (.int p2), .val (.int p3), .val (.long q4), .second, .val (.int p5), .val (.ref o54), .val (.ref o59), .val (.int (0 : Int32)), .val (.int (1 : Int32)), .unset] [(.int (1 : Int32))]) (own_Ret s (K_rm_law  Z h0 n0 p1 p2 p3 q4 p5) room_1.cells room_1.slots)
      refine own_istore X105 hx (Ls' := #[.val (.int p1), .val (.int p2), .val (.int p3), .val (.long q4), .second, .val (.int p5), .val (.ref o54), .val (.ref o59), .val (.int (0 : Int32)), .val (.int (1 : Int32)), .val (.int (1 : Int32))]) (pc' := 70) rfl (hb hby at_68) rfl ?_
      refine own_iload X105 hx (pc' := 72) rfl (hb hby at_70) rfl ?_
      refine own_ifF X105 hx (pc' := 75) rfl (hb hby at_72) (XT.i0_ne_f (by decide)) ?_
      refine own_iload X105 hx (pc' := 77) rfl (hb hby at_75) rfl ?_
      refine own_ifF X105 hx (pc' := 80) rfl (hb hby at_77) (XT.i0_eq_f (by decide)) ?_
      refine own_iload X105 hx (pc' := 82) rfl (hb hby at_80) rfl ?_
      refine own_ifF X105 hx (pc' := 85) rfl (hb hby at_82) (XT.i0_eq_f (by decide)) ?_
      refine own_aload X105 hx (pc' := 87) rfl (hb hby at_85) rfl rfl ?_
      refine own_callV X105 hx hZ (y := (⟨"com/example/mayfly/mayfly/store/Item", "value", "()[B"⟩ : MethodName)) hown (hw _ (List.mem_of_getElem? (i := 33) rfl)) (hw _ (List.mem_of_getElem? (i := 34) rfl)) (hw _ (List.mem_of_getElem? (i := 36) rfl)) (hw _ (List.mem_of_getElem? (i := 35) rfl)) (hw _ (List.mem_of_getElem? (i := 3) rfl)) (hw _ (List.mem_of_getElem? (i := 37) rfl)) E97  (by decide) (rm_val l Z a0 hw [] o54 o59 h94 n0 S95 E97 G94_1) (by decide) (W := 0) (by decide) (by decide) (by decide) e105 (by rw [hml]; rfl) (argsL := []) (rest := []) rfl (lenOf pd____B rfl) rfl (Nat.le_of_eq rfl) (pc' := 90) rfl (hb hby at_87) ?_
      rintro _ T106 L106 X106 ⟨rfl, N106, e106⟩
      have M106 := Fr.app M105 N106
      show own_Goes p e below T106 (mkF m 90 #[.val (.int p1), .val (.int p2), .val (.int p3), .val (.long q4), .second, .val (.int p5), .val (.ref o54), .val (.ref o59), .val (.int (0 : Int32)), .val (.int (1 : Int32)), .val (.int (1 : Int32))] [(.ref o54)]) (own_Ret s (K_rm_law  Z h0 n0 p1 p2 p3 q4 p5) room_1.cells room_1.slots)
      refine own_aload X106 hx (pc' := 92) rfl (hb hby at_90) rfl rfl ?_
      refine own_acmpF X106 hx (pc' := 95) rfl (hb hby at_92) rfl rfl (XT.aa_ne_f rfl) ?_
      refine own_aload X106 hx (pc' := 97) rfl (hb hby at_95) rfl rfl ?_
      refine own_len X106 hx hZ e106 A96 (v := (1 : Int32)) (by decide) (pc' := 98) rfl (hb hby at_97) ?_
      refine own_ifF X106 hx (pc' := 101) rfl (hb hby at_98) (XT.i0_eq_f (by decide)) ?_
      refine own_aload X106 hx (pc' := 103) rfl (hb hby at_101) rfl rfl ?_
      refine own_iconst X106 hx (v := (0 : Int32)) (pc' := 104) rfl (hb hby at_103) rfl ?_
      refine own_ldB X106 hx hZ e106 A96 (k := 0) (by decide) (by decide) (by decide) (v := (.int ((p2).toInt8.toInt32))) rfl (pc' := 105) rfl (hb hby at_104) ?_
      refine own_iloadN X106 hx (pc' := 106) rfl (hb hby at_105) rfl ?_
      refine own_i2b X106 hx (v := ((p2).toInt8.toInt32)) (pc' := 107) rfl (hb hby at_106) rfl ?_
      refine own_icmpF X106 hx (pc' := 110) rfl (hb hby at_107) (XT.ii_ne_f rfl) ?_
      refine own_aload X106 hx (pc' := 112) rfl (hb hby at_110) rfl rfl ?_
      refine own_callV X106 hx hZ (y := (⟨"com/example/mayfly/mayfly/store/Item", "flags", "()I"⟩ : MethodName)) hown (hw _ (List.mem_of_getElem? (i := 38) rfl)) (hw _ (List.mem_of_getElem? (i := 39) rfl)) (hw _ (List.mem_of_getElem? (i := 41) rfl)) (hw _ (List.mem_of_getElem? (i := 40) rfl)) (hw _ (List.mem_of_getElem? (i := 3) rfl)) (hw _ (List.mem_of_getElem? (i := 42) rfl)) E97  (by decide) (rm_flg l Z a0 hw [] p3 o59 h94 n0 S95 E97 G94_2) (by decide) (W := 0) (by decide) (by decide) (by decide) e106 (by rw [hml]; rfl) (argsL := []) (rest := []) rfl (lenOf pd___I rfl) rfl (Nat.le_of_eq rfl) (pc' := 115) rfl (hb hby at_112) ?_
      rintro _ T107 L107 X107 ⟨rfl, N107, e107⟩
      have M107 := Fr.app M106 N107
      show own_Goes p e below T107 (mkF m 115 #[.val (.int p1), .val (.int p2), .val (.int p3), .val (.long q4), .second, .val (.int p5), .val (.ref o54), .val (.ref o59), .val (.int (0 : Int32)), .val (.int (1 : Int32)), .val (.int (1 : Int32))] [(.int p3)]) (own_Ret s (K_rm_law  Z h0 n0 p1 p2 p3 q4 p5) room_1.cells room_1.slots)
      refine own_iloadN X107 hx (pc' := 116) rfl (hb hby at_115) rfl ?_
      refine own_icmpF X107 hx (pc' := 119) rfl (hb hby at_116) (XT.ii_ne_f rfl) ?_
      refine own_aload X107 hx (pc' := 121) rfl (hb hby at_119) rfl rfl ?_
      refine own_callV X107 hx hZ (y := (⟨"com/example/mayfly/mayfly/store/Item", "deadline", "()J"⟩ : MethodName)) hown (hw _ (List.mem_of_getElem? (i := 43) rfl)) (hw _ (List.mem_of_getElem? (i := 44) rfl)) (hw _ (List.mem_of_getElem? (i := 46) rfl)) (hw _ (List.mem_of_getElem? (i := 45) rfl)) (hw _ (List.mem_of_getElem? (i := 3) rfl)) (hw _ (List.mem_of_getElem? (i := 47) rfl)) E97  (by decide) (rm_ddl l Z a0 hw [] q4 o59 h94 n0 S95 E97 G94_3) (by decide) (W := 0) (by decide) (by decide) (by decide) e107 (by rw [hml]; rfl) (argsL := []) (rest := []) rfl (lenOf pd___J rfl) rfl (Nat.le_of_eq rfl) (pc' := 124) rfl (hb hby at_121) ?_
      rintro _ T108 L108 X108 ⟨rfl, N108, e108⟩
      have M108 := Fr.app M107 N108
      show own_Goes p e below T108 (mkF m 124 #[.val (.int p1), .val (.int p2), .val (.int p3), .val (.long q4), .second, .val (.int p5), .val (.ref o54), .val (.ref o59), .val (.int (0 : Int32)), .val (.int (1 : Int32)), .val (.int (1 : Int32))] [(.long q4)]) (own_Ret s (K_rm_law  Z h0 n0 p1 p2 p3 q4 p5) room_1.cells room_1.slots)
      refine own_lloadN X108 hx (pc' := 125) rfl (hb hby at_124) rfl ?_
      refine own_lcmp X108 hx (pc' := 126) rfl (hb hby at_125) ?_
      refine own_ifF X108 hx (pc' := 129) rfl (hb hby at_126) (XT.ll_ne_f rfl) ?_
      refine own_aload X108 hx (pc' := 131) rfl (hb hby at_129) rfl rfl ?_
      refine own_callV X108 hx hZ (y := (⟨"com/example/mayfly/mayfly/store/Item", "cas", "()J"⟩ : MethodName)) hown (hw _ (List.mem_of_getElem? (i := 48) rfl)) (hw _ (List.mem_of_getElem? (i := 49) rfl)) (hw _ (List.mem_of_getElem? (i := 51) rfl)) (hw _ (List.mem_of_getElem? (i := 50) rfl)) (hw _ (List.mem_of_getElem? (i := 3) rfl)) (hw _ (List.mem_of_getElem? (i := 52) rfl)) E97  (by decide) (rm_cas l Z a0 hw [] (0 : Int64) o59 h94 n0 S95 E97 G94_4) (by decide) (W := 0) (by decide) (by decide) (by decide) e108 (by rw [hml]; rfl) (argsL := []) (rest := []) rfl (lenOf pd___J rfl) rfl (Nat.le_of_eq rfl) (pc' := 134) rfl (hb hby at_131) ?_
      rintro _ T109 L109 X109 ⟨rfl, N109, e109⟩
      have M109 := Fr.app M108 N109
      show own_Goes p e below T109 (mkF m 134 #[.val (.int p1), .val (.int p2), .val (.int p3), .val (.long q4), .second, .val (.int p5), .val (.ref o54), .val (.ref o59), .val (.int (0 : Int32)), .val (.int (1 : Int32)), .val (.int (1 : Int32))] [(.long (0 : Int64))]) (own_Ret s (K_rm_law  Z h0 n0 p1 p2 p3 q4 p5) room_1.cells room_1.slots)
      refine own_lconst X109 hx (v := (0 : Int64)) (pc' := 135) rfl (hb hby at_134) rfl ?_
      refine own_lcmp X109 hx (pc' := 136) rfl (hb hby at_135) ?_
      refine own_ifF X109 hx (pc' := 139) rfl (hb hby at_136) (XT.ll_ne_f rfl) ?_
      refine own_iconst X109 hx (v := (1 : Int32)) (pc' := 140) rfl (hb hby at_139) rfl ?_
      refine own_goto X109 hx (pc' := 144) (hb hby at_140) (by decide) (by decide) ?_
      refine own_zret X109 hx hlk hret (by simp) (hb hby at_144) (by decide) (by decide) ?_
      rw [e109]
      exact ⟨rfl, M109⟩
  · refine own_newarr X0 hx hZ (aty := .byte) (hw _ (List.mem_of_getElem? (i := 0) rfl)) e0 (pc' := 5) rfl (hb hby at_3) (by decide) (N := 2) (by decide) (cap := 2) (by decide) (by decide) (by decide) (by decide) ?_
    intro T110 h110 X110 e110 E110 A110
    obtain ⟨o110, g110⟩ : ∃ z, z = h0.size := ⟨_, rfl⟩
    rw [← g110] at A110 ⊢
    have ge110 : n0 ≤ o110 := g110 ▸ Z0
    have S111 := Nat.le_trans Z0 E110.1
    refine own_astore X110 hx (Ls' := #[.val (.int p1), .val (.int p2), .val (.int p3), .val (.long q4), .second, .val (.int p5), .val (.ref o110), .unset, .unset, .unset, .unset]) (pc' := 7) rfl (hb hby at_5) rfl rfl ?_
    refine own_aload X110 hx (pc' := 9) rfl (hb hby at_7) rfl rfl ?_
    refine own_len X110 hx hZ e110 A110 (v := (2 : Int32)) (by decide) (pc' := 10) rfl (hb hby at_9) ?_
    refine own_ifF X110 hx (pc' := 13) rfl (hb hby at_10) (XT.i0_le_f (by decide)) ?_
    refine own_aload X110 hx (pc' := 15) rfl (hb hby at_13) rfl rfl ?_
    refine own_iconst X110 hx (v := (0 : Int32)) (pc' := 16) rfl (hb hby at_15) rfl ?_
    refine own_iloadN X110 hx (pc' := 17) rfl (hb hby at_16) rfl ?_
    refine own_i2b X110 hx (v := ((p2).toInt8.toInt32)) (pc' := 18) rfl (hb hby at_17) rfl ?_
    refine own_stB X110 hx hZ e110 A110 (k := 0) (by decide) (by decide) (by decide) (own_nb p2) (pc' := 19) rfl (hb hby at_18) ?_
    intro T112 h112 X112 e112 W112 A112
    have S113 := own_sizWr W112 S111
    have N112 := Fr.snoc X112 N0 ge110
    refine own_new X112 hx hZ hown (hw _ (List.mem_of_getElem? (i := 1) rfl)) (hw _ (List.mem_of_getElem? (i := 2) rfl)) (hw _ (List.mem_of_getElem? (i := 3) rfl)) e112 (pc' := 22) rfl (hb hby at_19) (by decide) (by decide) ?_
    intro T115 h115 X115 e115 E115 A115 D115
    obtain ⟨o115, g115⟩ : ∃ z, z = h112.size := ⟨_, rfl⟩
    rw [← g115] at A115 D115 ⊢
    have ne115_o110 : o110 ≠ o115 := Nat.ne_of_lt (g115 ▸ (own_Arr.lt A112))
    have ge115 : n0 ≤ o115 := g115 ▸ S113
    have S116 := Nat.le_trans S113 E115.1
    have A117 := own_Arr.ext E115 A112
    have F118 : Fld Z h115 o115 "com/example/mayfly/mayfly/store/Item" "value" "[B" .null := D115 (Or.inr (hw _ (List.mem_of_getElem? (i := 14) rfl))) (ty := (.array .byte)) (by decide)
    have F119 : Fld Z h115 o115 "com/example/mayfly/mayfly/store/Item" "flags" "I" (.int (0 : Int32)) := D115 (Or.inr (hw _ (List.mem_of_getElem? (i := 16) rfl))) (ty := .int) (by decide)
    have F120 : Fld Z h115 o115 "com/example/mayfly/mayfly/store/Item" "deadline" "J" (.long (0 : Int64)) := D115 (Or.inr (hw _ (List.mem_of_getElem? (i := 18) rfl))) (ty := .long) (by decide)
    have F121 : Fld Z h115 o115 "com/example/mayfly/mayfly/store/Item" "cas" "J" (.long (0 : Int64)) := D115 (Or.inr (hw _ (List.mem_of_getElem? (i := 20) rfl))) (ty := .long) (by decide)
    have F122 : Fld Z h115 o115 "com/example/mayfly/mayfly/store/Item" "read" "Z" (.int (0 : Int32)) := D115 (Or.inl (hw _ (List.mem_of_getElem? (i := 22) rfl))) (ty := .boolean) (by decide)
    refine own_dup X115 hx (pc' := 23) rfl (hb hby at_22) rfl ?_
    refine own_aload X115 hx (pc' := 25) rfl (hb hby at_23) rfl rfl ?_
    refine own_iloadN X115 hx (pc' := 26) rfl (hb hby at_25) rfl ?_
    refine own_lloadN X115 hx (pc' := 27) rfl (hb hby at_26) rfl ?_
    refine own_callC X115 hx hZ (y := (⟨"com/example/mayfly/mayfly/store/Item", "<init>", "([BIJ)V"⟩ : MethodName)) rfl hown (hw _ (List.mem_of_getElem? (i := 4) rfl)) (hw _ (List.mem_of_getElem? (i := 5) rfl)) (hw _ (List.mem_of_getElem? (i := 3) rfl)) (hw _ (List.mem_of_getElem? (i := 6) rfl))  (by decide) (rm_item3 l Z a0 hw [] o115 o110 p3 q4 h115 n0 S116 A115 F118 F119 F120 F121 F122 ge115) (by decide) (W := 1) (by decide) (by decide) (by decide) e115 (by rw [hml]; rfl) (argsL := [(.ref o110), (.int p3), (.long q4)]) (rest := [(.ref o115)]) rfl (lenOf pd___BIJ_V rfl) rfl (Nat.le_of_eq rfl) (pc' := 30) rfl (hb hby at_27) ?_
    rintro _ T123 L123 X123 ⟨rfl, N123, K123, G123_0, G123_1, G123_2, G123_3, G123_4, G123_5⟩
    have M123 := Fr.app N112 N123
    obtain ⟨h123, e123⟩ : ∃ z, T123.heap = z := ⟨_, rfl⟩
    rw [e123] at K123 G123_0 G123_1 G123_2 G123_3 G123_4 G123_5
    have S124 := Nat.le_trans S116 K123.1
    have A125 := own_Arr.keep K123 A117 (ninS ne115_o110 nin0)
    have E126 := A115.keep K123
    show own_Goes p e below T123 (mkF m 30 #[.val (.int p1), .val (.int p2), .val (.int p3), .val (.long q4), .second, .val (.int p5), .val (.ref o110), .unset, .unset, .unset, .unset] [(.ref o115)]) (own_Ret s (K_rm_law  Z h0 n0 p1 p2 p3 q4 p5) room_1.cells room_1.slots)
    refine own_astore X123 hx (Ls' := #[.val (.int p1), .val (.int p2), .val (.int p3), .val (.long q4), .second, .val (.int p5), .val (.ref o110), .val (.ref o115), .unset, .unset, .unset]) (pc' := 32) rfl (hb hby at_30) rfl rfl ?_
    refine own_aload X123 hx (pc' := 34) rfl (hb hby at_32) rfl rfl ?_
    refine own_callV X123 hx hZ (y := (⟨"com/example/mayfly/mayfly/store/Item", "wasRead", "()Z"⟩ : MethodName)) hown (hw _ (List.mem_of_getElem? (i := 23) rfl)) (hw _ (List.mem_of_getElem? (i := 24) rfl)) (hw _ (List.mem_of_getElem? (i := 26) rfl)) (hw _ (List.mem_of_getElem? (i := 25) rfl)) (hw _ (List.mem_of_getElem? (i := 3) rfl)) (hw _ (List.mem_of_getElem? (i := 27) rfl)) E126  (by decide) (rm_was l Z a0 hw [] (0 : Int32) o115 h123 n0 S124 E126 G123_5 (by decide)) (by decide) (W := 0) (by decide) (by decide) (by decide) e123 (by rw [hml]; rfl) (argsL := []) (rest := []) rfl (lenOf pd___Z rfl) rfl (Nat.le_of_eq rfl) (pc' := 37) rfl (hb hby at_34) ?_
    rintro _ T132 L132 X132 ⟨rfl, N132, e132⟩
    have M132 := Fr.app M123 N132
    show own_Goes p e below T132 (mkF m 37 #[.val (.int p1), .val (.int p2), .val (.int p3), .val (.long q4), .second, .val (.int p5), .val (.ref o110), .val (.ref o115), .unset, .unset, .unset] [(.int (0 : Int32))]) (own_Ret s (K_rm_law  Z h0 n0 p1 p2 p3 q4 p5) room_1.cells room_1.slots)
    refine own_istore X132 hx (Ls' := #[.val (.int p1), .val (.int p2), .val (.int p3), .val (.long q4), .second, .val (.int p5), .val (.ref o110), .val (.ref o115), .val (.int (0 : Int32)), .unset, .unset]) (pc' := 39) rfl (hb hby at_37) rfl ?_
    refine own_aload X132 hx (pc' := 41) rfl (hb hby at_39) rfl rfl ?_
    refine own_callV X132 hx hZ (y := (⟨"com/example/mayfly/mayfly/store/Item", "markRead", "()V"⟩ : MethodName)) hown (hw _ (List.mem_of_getElem? (i := 28) rfl)) (hw _ (List.mem_of_getElem? (i := 29) rfl)) (hw _ (List.mem_of_getElem? (i := 31) rfl)) (hw _ (List.mem_of_getElem? (i := 30) rfl)) (hw _ (List.mem_of_getElem? (i := 3) rfl)) (hw _ (List.mem_of_getElem? (i := 32) rfl)) E126  (by decide) (rm_mark l Z a0 hw [] o110 p3 q4 (0 : Int64) (0 : Int32) o115 h123 n0 S124 E126 G123_1 G123_2 G123_3 G123_4 G123_5 ge115 (by decide)) (by decide) (W := 0) (by decide) (by decide) (by decide) e132 (by rw [hml]; rfl) (argsL := []) (rest := []) rfl (lenOf pd___V rfl) rfl (Nat.le_of_eq rfl) (pc' := 44) rfl (hb hby at_41) ?_
    rintro _ T133 L133 X133 ⟨rfl, N133, K133, G133_0, G133_1, G133_2, G133_3, G133_4, G133_5⟩
    have M133 := Fr.app M132 N133
    obtain ⟨h133, e133⟩ : ∃ z, T133.heap = z := ⟨_, rfl⟩
    rw [e133] at K133 G133_0 G133_1 G133_2 G133_3 G133_4 G133_5
    have S134 := Nat.le_trans S124 K133.1
    have A135 := own_Arr.keep K133 A125 (ninS ne115_o110 nin0)
    have E136 := E126.keep K133
    have E137 := G123_0.keep K133
    show own_Goes p e below T133 (mkF m 44 #[.val (.int p1), .val (.int p2), .val (.int p3), .val (.long q4), .second, .val (.int p5), .val (.ref o110), .val (.ref o115), .val (.int (0 : Int32)), .unset, .unset] []) (own_Ret s (K_rm_law  Z h0 n0 p1 p2 p3 q4 p5) room_1.cells room_1.slots)
    refine own_aload X133 hx (pc' := 46) rfl (hb hby at_44) rfl rfl ?_
    refine own_callV X133 hx hZ (y := (⟨"com/example/mayfly/mayfly/store/Item", "wasRead", "()Z"⟩ : MethodName)) hown (hw _ (List.mem_of_getElem? (i := 23) rfl)) (hw _ (List.mem_of_getElem? (i := 24) rfl)) (hw _ (List.mem_of_getElem? (i := 26) rfl)) (hw _ (List.mem_of_getElem? (i := 25) rfl)) (hw _ (List.mem_of_getElem? (i := 3) rfl)) (hw _ (List.mem_of_getElem? (i := 27) rfl)) E136  (by decide) (rm_was l Z a0 hw [] (1 : Int32) o115 h133 n0 S134 E136 G133_5 (by decide)) (by decide) (W := 0) (by decide) (by decide) (by decide) e133 (by rw [hml]; rfl) (argsL := []) (rest := []) rfl (lenOf pd___Z rfl) rfl (Nat.le_of_eq rfl) (pc' := 49) rfl (hb hby at_46) ?_
    rintro _ T143 L143 X143 ⟨rfl, N143, e143⟩
    have M143 := Fr.app M133 N143
    show own_Goes p e below T143 (mkF m 49 #[.val (.int p1), .val (.int p2), .val (.int p3), .val (.long q4), .second, .val (.int p5), .val (.ref o110), .val (.ref o115), .val (.int (0 : Int32)), .unset, .unset] [(.int (1 : Int32))]) (own_Ret s (K_rm_law  Z h0 n0 p1 p2 p3 q4 p5) room_1.cells room_1.slots)
    refine own_istore X143 hx (Ls' := #[.val (.int p1), .val (.int p2), .val (.int p3), .val (.long q4), .second, .val (.int p5), .val (.ref o110), .val (.ref o115), .val (.int (0 : Int32)), .val (.int (1 : Int32)), .unset]) (pc' := 51) rfl (hb hby at_49) rfl ?_
    refine own_iload X143 hx (pc' := 53) rfl (hb hby at_51) rfl ?_
    refine own_iconst X143 hx (v := (1 : Int32)) (pc' := 54) rfl (hb hby at_53) rfl ?_
    refine own_iand X143 hx (v := (p5 &&& (1 : Int32))) (pc' := 55) rfl (hb hby at_54) rfl ?_
    by_cases c55_144 : (p5 &&& (1 : Int32)) = 0
    · refine own_ifT X143 hx (pc' := 63) (hb hby at_55) (XT.i0_eq_t c55_144) (by decide) (by decide) ?_
      refine own_aload X143 hx (pc' := 65) rfl (hb hby at_63) rfl rfl ?_
      refine own_callV X143 hx hZ (y := (⟨"com/example/mayfly/mayfly/store/Item", "wasRead", "()Z"⟩ : MethodName)) hown (hw _ (List.mem_of_getElem? (i := 23) rfl)) (hw _ (List.mem_of_getElem? (i := 24) rfl)) (hw _ (List.mem_of_getElem? (i := 26) rfl)) (hw _ (List.mem_of_getElem? (i := 25) rfl)) (hw _ (List.mem_of_getElem? (i := 3) rfl)) (hw _ (List.mem_of_getElem? (i := 27) rfl)) E136  (by decide) (rm_was l Z a0 hw [] (1 : Int32) o115 h133 n0 S134 E136 G133_5 (by decide)) (by decide) (W := 0) (by decide) (by decide) (by decide) e143 (by rw [hml]; rfl) (argsL := []) (rest := []) rfl (lenOf pd___Z rfl) rfl (Nat.le_of_eq rfl) (pc' := 68) rfl (hb hby at_65) ?_
      rintro _ T145 L145 X145 ⟨rfl, N145, e145⟩
      have M145 := Fr.app M143 N145
      show own_Goes p e below T145 (mkF m 68 #[.val (.int p1), .val (.int p2), .val (.int p3), .val (.long q4), .second, .val (.int p5), .val (.ref o110), .val (.ref o115), .val (.int (0 : Int32)), .val (.int (1 : Int32)), .unset] [(.int (1 : Int32))]) (own_Ret s (K_rm_law  Z h0 n0 p1 p2 p3 q4 p5) room_1.cells room_1.slots)
      refine own_istore X145 hx (Ls' := #[.val (.int p1), .val (.int p2), .val (.int p3), .val (.long q4), .second, .val (.int p5), .val (.ref o110), .val (.ref o115), .val (.int (0 : Int32)), .val (.int (1 : Int32)), .val (.int (1 : Int32))]) (pc' := 70) rfl (hb hby at_68) rfl ?_
      refine own_iload X145 hx (pc' := 72) rfl (hb hby at_70) rfl ?_
      refine own_ifF X145 hx (pc' := 75) rfl (hb hby at_72) (XT.i0_ne_f (by decide)) ?_
      refine own_iload X145 hx (pc' := 77) rfl (hb hby at_75) rfl ?_
      refine own_ifF X145 hx (pc' := 80) rfl (hb hby at_77) (XT.i0_eq_f (by decide)) ?_
      refine own_iload X145 hx (pc' := 82) rfl (hb hby at_80) rfl ?_
      refine own_ifF X145 hx (pc' := 85) rfl (hb hby at_82) (XT.i0_eq_f (by decide)) ?_
      refine own_aload X145 hx (pc' := 87) rfl (hb hby at_85) rfl rfl ?_
      refine own_callV X145 hx hZ (y := (⟨"com/example/mayfly/mayfly/store/Item", "value", "()[B"⟩ : MethodName)) hown (hw _ (List.mem_of_getElem? (i := 33) rfl)) (hw _ (List.mem_of_getElem? (i := 34) rfl)) (hw _ (List.mem_of_getElem? (i := 36) rfl)) (hw _ (List.mem_of_getElem? (i := 35) rfl)) (hw _ (List.mem_of_getElem? (i := 3) rfl)) (hw _ (List.mem_of_getElem? (i := 37) rfl)) E136  (by decide) (rm_val l Z a0 hw [] o110 o115 h133 n0 S134 E136 G133_1) (by decide) (W := 0) (by decide) (by decide) (by decide) e145 (by rw [hml]; rfl) (argsL := []) (rest := []) rfl (lenOf pd____B rfl) rfl (Nat.le_of_eq rfl) (pc' := 90) rfl (hb hby at_87) ?_
      rintro _ T146 L146 X146 ⟨rfl, N146, e146⟩
      have M146 := Fr.app M145 N146
      show own_Goes p e below T146 (mkF m 90 #[.val (.int p1), .val (.int p2), .val (.int p3), .val (.long q4), .second, .val (.int p5), .val (.ref o110), .val (.ref o115), .val (.int (0 : Int32)), .val (.int (1 : Int32)), .val (.int (1 : Int32))] [(.ref o110)]) (own_Ret s (K_rm_law  Z h0 n0 p1 p2 p3 q4 p5) room_1.cells room_1.slots)
      refine own_aload X146 hx (pc' := 92) rfl (hb hby at_90) rfl rfl ?_
      refine own_acmpF X146 hx (pc' := 95) rfl (hb hby at_92) rfl rfl (XT.aa_ne_f rfl) ?_
      refine own_aload X146 hx (pc' := 97) rfl (hb hby at_95) rfl rfl ?_
      refine own_len X146 hx hZ e146 A135 (v := (2 : Int32)) (by decide) (pc' := 98) rfl (hb hby at_97) ?_
      refine own_ifF X146 hx (pc' := 101) rfl (hb hby at_98) (XT.i0_eq_f (by decide)) ?_
      refine own_aload X146 hx (pc' := 103) rfl (hb hby at_101) rfl rfl ?_
      refine own_iconst X146 hx (v := (0 : Int32)) (pc' := 104) rfl (hb hby at_103) rfl ?_
      refine own_ldB X146 hx hZ e146 A135 (k := 0) (by decide) (by decide) (by decide) (v := (.int ((p2).toInt8.toInt32))) rfl (pc' := 105) rfl (hb hby at_104) ?_
      refine own_iloadN X146 hx (pc' := 106) rfl (hb hby at_105) rfl ?_
      refine own_i2b X146 hx (v := ((p2).toInt8.toInt32)) (pc' := 107) rfl (hb hby at_106) rfl ?_
      refine own_icmpF X146 hx (pc' := 110) rfl (hb hby at_107) (XT.ii_ne_f rfl) ?_
      refine own_aload X146 hx (pc' := 112) rfl (hb hby at_110) rfl rfl ?_
      refine own_callV X146 hx hZ (y := (⟨"com/example/mayfly/mayfly/store/Item", "flags", "()I"⟩ : MethodName)) hown (hw _ (List.mem_of_getElem? (i := 38) rfl)) (hw _ (List.mem_of_getElem? (i := 39) rfl)) (hw _ (List.mem_of_getElem? (i := 41) rfl)) (hw _ (List.mem_of_getElem? (i := 40) rfl)) (hw _ (List.mem_of_getElem? (i := 3) rfl)) (hw _ (List.mem_of_getElem? (i := 42) rfl)) E136  (by decide) (rm_flg l Z a0 hw [] p3 o115 h133 n0 S134 E136 G133_2) (by decide) (W := 0) (by decide) (by decide) (by decide) e146 (by rw [hml]; rfl) (argsL := []) (rest := []) rfl (lenOf pd___I rfl) rfl (Nat.le_of_eq rfl) (pc' := 115) rfl (hb hby at_112) ?_
      rintro _ T147 L147 X147 ⟨rfl, N147, e147⟩
      have M147 := Fr.app M146 N147
      show own_Goes p e below T147 (mkF m 115 #[.val (.int p1), .val (.int p2), .val (.int p3), .val (.long q4), .second, .val (.int p5), .val (.ref o110), .val (.ref o115), .val (.int (0 : Int32)), .val (.int (1 : Int32)), .val (.int (1 : Int32))] [(.int p3)]) (own_Ret s (K_rm_law  Z h0 n0 p1 p2 p3 q4 p5) room_1.cells room_1.slots)
      refine own_iloadN X147 hx (pc' := 116) rfl (hb hby at_115) rfl ?_
      refine own_icmpF X147 hx (pc' := 119) rfl (hb hby at_116) (XT.ii_ne_f rfl) ?_
      refine own_aload X147 hx (pc' := 121) rfl (hb hby at_119) rfl rfl ?_
      refine own_callV X147 hx hZ (y := (⟨"com/example/mayfly/mayfly/store/Item", "deadline", "()J"⟩ : MethodName)) hown (hw _ (List.mem_of_getElem? (i := 43) rfl)) (hw _ (List.mem_of_getElem? (i := 44) rfl)) (hw _ (List.mem_of_getElem? (i := 46) rfl)) (hw _ (List.mem_of_getElem? (i := 45) rfl)) (hw _ (List.mem_of_getElem? (i := 3) rfl)) (hw _ (List.mem_of_getElem? (i := 47) rfl)) E136  (by decide) (rm_ddl l Z a0 hw [] q4 o115 h133 n0 S134 E136 G133_3) (by decide) (W := 0) (by decide) (by decide) (by decide) e147 (by rw [hml]; rfl) (argsL := []) (rest := []) rfl (lenOf pd___J rfl) rfl (Nat.le_of_eq rfl) (pc' := 124) rfl (hb hby at_121) ?_
      rintro _ T148 L148 X148 ⟨rfl, N148, e148⟩
      have M148 := Fr.app M147 N148
      show own_Goes p e below T148 (mkF m 124 #[.val (.int p1), .val (.int p2), .val (.int p3), .val (.long q4), .second, .val (.int p5), .val (.ref o110), .val (.ref o115), .val (.int (0 : Int32)), .val (.int (1 : Int32)), .val (.int (1 : Int32))] [(.long q4)]) (own_Ret s (K_rm_law  Z h0 n0 p1 p2 p3 q4 p5) room_1.cells room_1.slots)
      refine own_lloadN X148 hx (pc' := 125) rfl (hb hby at_124) rfl ?_
      refine own_lcmp X148 hx (pc' := 126) rfl (hb hby at_125) ?_
      refine own_ifF X148 hx (pc' := 129) rfl (hb hby at_126) (XT.ll_ne_f rfl) ?_
      refine own_aload X148 hx (pc' := 131) rfl (hb hby at_129) rfl rfl ?_
      refine own_callV X148 hx hZ (y := (⟨"com/example/mayfly/mayfly/store/Item", "cas", "()J"⟩ : MethodName)) hown (hw _ (List.mem_of_getElem? (i := 48) rfl)) (hw _ (List.mem_of_getElem? (i := 49) rfl)) (hw _ (List.mem_of_getElem? (i := 51) rfl)) (hw _ (List.mem_of_getElem? (i := 50) rfl)) (hw _ (List.mem_of_getElem? (i := 3) rfl)) (hw _ (List.mem_of_getElem? (i := 52) rfl)) E136  (by decide) (rm_cas l Z a0 hw [] (0 : Int64) o115 h133 n0 S134 E136 G133_4) (by decide) (W := 0) (by decide) (by decide) (by decide) e148 (by rw [hml]; rfl) (argsL := []) (rest := []) rfl (lenOf pd___J rfl) rfl (Nat.le_of_eq rfl) (pc' := 134) rfl (hb hby at_131) ?_
      rintro _ T149 L149 X149 ⟨rfl, N149, e149⟩
      have M149 := Fr.app M148 N149
      show own_Goes p e below T149 (mkF m 134 #[.val (.int p1), .val (.int p2), .val (.int p3), .val (.long q4), .second, .val (.int p5), .val (.ref o110), .val (.ref o115), .val (.int (0 : Int32)), .val (.int (1 : Int32)), .val (.int (1 : Int32))] [(.long (0 : Int64))]) (own_Ret s (K_rm_law  Z h0 n0 p1 p2 p3 q4 p5) room_1.cells room_1.slots)
      refine own_lconst X149 hx (v := (0 : Int64)) (pc' := 135) rfl (hb hby at_134) rfl ?_
      refine own_lcmp X149 hx (pc' := 136) rfl (hb hby at_135) ?_
      refine own_ifF X149 hx (pc' := 139) rfl (hb hby at_136) (XT.ll_ne_f rfl) ?_
      refine own_iconst X149 hx (v := (1 : Int32)) (pc' := 140) rfl (hb hby at_139) rfl ?_
      refine own_goto X149 hx (pc' := 144) (hb hby at_140) (by decide) (by decide) ?_
      refine own_zret X149 hx hlk hret (by simp) (hb hby at_144) (by decide) (by decide) ?_
      rw [e149]
      exact ⟨rfl, M149⟩
    · refine own_ifF X143 hx (pc' := 58) rfl (hb hby at_55) (XT.i0_eq_f c55_144) ?_
      refine own_aload X143 hx (pc' := 60) rfl (hb hby at_58) rfl rfl ?_
      refine own_callV X143 hx hZ (y := (⟨"com/example/mayfly/mayfly/store/Item", "markRead", "()V"⟩ : MethodName)) hown (hw _ (List.mem_of_getElem? (i := 28) rfl)) (hw _ (List.mem_of_getElem? (i := 29) rfl)) (hw _ (List.mem_of_getElem? (i := 31) rfl)) (hw _ (List.mem_of_getElem? (i := 30) rfl)) (hw _ (List.mem_of_getElem? (i := 3) rfl)) (hw _ (List.mem_of_getElem? (i := 32) rfl)) E136  (by decide) (rm_mark l Z a0 hw [] o110 p3 q4 (0 : Int64) (1 : Int32) o115 h133 n0 S134 E136 G133_1 G133_2 G133_3 G133_4 G133_5 ge115 (by decide)) (by decide) (W := 0) (by decide) (by decide) (by decide) e143 (by rw [hml]; rfl) (argsL := []) (rest := []) rfl (lenOf pd___V rfl) rfl (Nat.le_of_eq rfl) (pc' := 63) rfl (hb hby at_60) ?_
      rintro _ T150 L150 X150 ⟨rfl, N150, K150, G150_0, G150_1, G150_2, G150_3, G150_4, G150_5⟩
      have M150 := Fr.app M143 N150
      obtain ⟨h150, e150⟩ : ∃ z, T150.heap = z := ⟨_, rfl⟩
      rw [e150] at K150 G150_0 G150_1 G150_2 G150_3 G150_4 G150_5
      have S151 := Nat.le_trans S134 K150.1
      have A152 := own_Arr.keep K150 A135 (ninS ne115_o110 nin0)
      have E153 := E136.keep K150
      have E154 := E137.keep K150
      have E155 := G133_0.keep K150
      show own_Goes p e below T150 (mkF m 63 #[.val (.int p1), .val (.int p2), .val (.int p3), .val (.long q4), .second, .val (.int p5), .val (.ref o110), .val (.ref o115), .val (.int (0 : Int32)), .val (.int (1 : Int32)), .unset] []) (own_Ret s (K_rm_law  Z h0 n0 p1 p2 p3 q4 p5) room_1.cells room_1.slots)
      refine own_aload X150 hx (pc' := 65) rfl (hb hby at_63) rfl rfl ?_
      refine own_callV X150 hx hZ (y := (⟨"com/example/mayfly/mayfly/store/Item", "wasRead", "()Z"⟩ : MethodName)) hown (hw _ (List.mem_of_getElem? (i := 23) rfl)) (hw _ (List.mem_of_getElem? (i := 24) rfl)) (hw _ (List.mem_of_getElem? (i := 26) rfl)) (hw _ (List.mem_of_getElem? (i := 25) rfl)) (hw _ (List.mem_of_getElem? (i := 3) rfl)) (hw _ (List.mem_of_getElem? (i := 27) rfl)) E153  (by decide) (rm_was l Z a0 hw [] (1 : Int32) o115 h150 n0 S151 E153 G150_5 (by decide)) (by decide) (W := 0) (by decide) (by decide) (by decide) e150 (by rw [hml]; rfl) (argsL := []) (rest := []) rfl (lenOf pd___Z rfl) rfl (Nat.le_of_eq rfl) (pc' := 68) rfl (hb hby at_65) ?_
      rintro _ T161 L161 X161 ⟨rfl, N161, e161⟩
      have M161 := Fr.app M150 N161
      show own_Goes p e below T161 (mkF m 68 #[.val (.int p1), .val (.int p2), .val (.int p3), .val (.long q4), .second, .val (.int p5), .val (.ref o110), .val (.ref o115), .val (.int (0 : Int32)), .val (.int (1 : Int32)), .unset] [(.int (1 : Int32))]) (own_Ret s (K_rm_law  Z h0 n0 p1 p2 p3 q4 p5) room_1.cells room_1.slots)
      refine own_istore X161 hx (Ls' := #[.val (.int p1), .val (.int p2), .val (.int p3), .val (.long q4), .second, .val (.int p5), .val (.ref o110), .val (.ref o115), .val (.int (0 : Int32)), .val (.int (1 : Int32)), .val (.int (1 : Int32))]) (pc' := 70) rfl (hb hby at_68) rfl ?_
      refine own_iload X161 hx (pc' := 72) rfl (hb hby at_70) rfl ?_
      refine own_ifF X161 hx (pc' := 75) rfl (hb hby at_72) (XT.i0_ne_f (by decide)) ?_
      refine own_iload X161 hx (pc' := 77) rfl (hb hby at_75) rfl ?_
      refine own_ifF X161 hx (pc' := 80) rfl (hb hby at_77) (XT.i0_eq_f (by decide)) ?_
      refine own_iload X161 hx (pc' := 82) rfl (hb hby at_80) rfl ?_
      refine own_ifF X161 hx (pc' := 85) rfl (hb hby at_82) (XT.i0_eq_f (by decide)) ?_
      refine own_aload X161 hx (pc' := 87) rfl (hb hby at_85) rfl rfl ?_
      refine own_callV X161 hx hZ (y := (⟨"com/example/mayfly/mayfly/store/Item", "value", "()[B"⟩ : MethodName)) hown (hw _ (List.mem_of_getElem? (i := 33) rfl)) (hw _ (List.mem_of_getElem? (i := 34) rfl)) (hw _ (List.mem_of_getElem? (i := 36) rfl)) (hw _ (List.mem_of_getElem? (i := 35) rfl)) (hw _ (List.mem_of_getElem? (i := 3) rfl)) (hw _ (List.mem_of_getElem? (i := 37) rfl)) E153  (by decide) (rm_val l Z a0 hw [] o110 o115 h150 n0 S151 E153 G150_1) (by decide) (W := 0) (by decide) (by decide) (by decide) e161 (by rw [hml]; rfl) (argsL := []) (rest := []) rfl (lenOf pd____B rfl) rfl (Nat.le_of_eq rfl) (pc' := 90) rfl (hb hby at_87) ?_
      rintro _ T162 L162 X162 ⟨rfl, N162, e162⟩
      have M162 := Fr.app M161 N162
      show own_Goes p e below T162 (mkF m 90 #[.val (.int p1), .val (.int p2), .val (.int p3), .val (.long q4), .second, .val (.int p5), .val (.ref o110), .val (.ref o115), .val (.int (0 : Int32)), .val (.int (1 : Int32)), .val (.int (1 : Int32))] [(.ref o110)]) (own_Ret s (K_rm_law  Z h0 n0 p1 p2 p3 q4 p5) room_1.cells room_1.slots)
      refine own_aload X162 hx (pc' := 92) rfl (hb hby at_90) rfl rfl ?_
      refine own_acmpF X162 hx (pc' := 95) rfl (hb hby at_92) rfl rfl (XT.aa_ne_f rfl) ?_
      refine own_aload X162 hx (pc' := 97) rfl (hb hby at_95) rfl rfl ?_
      refine own_len X162 hx hZ e162 A152 (v := (2 : Int32)) (by decide) (pc' := 98) rfl (hb hby at_97) ?_
      refine own_ifF X162 hx (pc' := 101) rfl (hb hby at_98) (XT.i0_eq_f (by decide)) ?_
      refine own_aload X162 hx (pc' := 103) rfl (hb hby at_101) rfl rfl ?_
      refine own_iconst X162 hx (v := (0 : Int32)) (pc' := 104) rfl (hb hby at_103) rfl ?_
      refine own_ldB X162 hx hZ e162 A152 (k := 0) (by decide) (by decide) (by decide) (v := (.int ((p2).toInt8.toInt32))) rfl (pc' := 105) rfl (hb hby at_104) ?_
      refine own_iloadN X162 hx (pc' := 106) rfl (hb hby at_105) rfl ?_
      refine own_i2b X162 hx (v := ((p2).toInt8.toInt32)) (pc' := 107) rfl (hb hby at_106) rfl ?_
      refine own_icmpF X162 hx (pc' := 110) rfl (hb hby at_107) (XT.ii_ne_f rfl) ?_
      refine own_aload X162 hx (pc' := 112) rfl (hb hby at_110) rfl rfl ?_
      refine own_callV X162 hx hZ (y := (⟨"com/example/mayfly/mayfly/store/Item", "flags", "()I"⟩ : MethodName)) hown (hw _ (List.mem_of_getElem? (i := 38) rfl)) (hw _ (List.mem_of_getElem? (i := 39) rfl)) (hw _ (List.mem_of_getElem? (i := 41) rfl)) (hw _ (List.mem_of_getElem? (i := 40) rfl)) (hw _ (List.mem_of_getElem? (i := 3) rfl)) (hw _ (List.mem_of_getElem? (i := 42) rfl)) E153  (by decide) (rm_flg l Z a0 hw [] p3 o115 h150 n0 S151 E153 G150_2) (by decide) (W := 0) (by decide) (by decide) (by decide) e162 (by rw [hml]; rfl) (argsL := []) (rest := []) rfl (lenOf pd___I rfl) rfl (Nat.le_of_eq rfl) (pc' := 115) rfl (hb hby at_112) ?_
      rintro _ T163 L163 X163 ⟨rfl, N163, e163⟩
      have M163 := Fr.app M162 N163
      show own_Goes p e below T163 (mkF m 115 #[.val (.int p1), .val (.int p2), .val (.int p3), .val (.long q4), .second, .val (.int p5), .val (.ref o110), .val (.ref o115), .val (.int (0 : Int32)), .val (.int (1 : Int32)), .val (.int (1 : Int32))] [(.int p3)]) (own_Ret s (K_rm_law  Z h0 n0 p1 p2 p3 q4 p5) room_1.cells room_1.slots)
      refine own_iloadN X163 hx (pc' := 116) rfl (hb hby at_115) rfl ?_
      refine own_icmpF X163 hx (pc' := 119) rfl (hb hby at_116) (XT.ii_ne_f rfl) ?_
      refine own_aload X163 hx (pc' := 121) rfl (hb hby at_119) rfl rfl ?_
      refine own_callV X163 hx hZ (y := (⟨"com/example/mayfly/mayfly/store/Item", "deadline", "()J"⟩ : MethodName)) hown (hw _ (List.mem_of_getElem? (i := 43) rfl)) (hw _ (List.mem_of_getElem? (i := 44) rfl)) (hw _ (List.mem_of_getElem? (i := 46) rfl)) (hw _ (List.mem_of_getElem? (i := 45) rfl)) (hw _ (List.mem_of_getElem? (i := 3) rfl)) (hw _ (List.mem_of_getElem? (i := 47) rfl)) E153  (by decide) (rm_ddl l Z a0 hw [] q4 o115 h150 n0 S151 E153 G150_3) (by decide) (W := 0) (by decide) (by decide) (by decide) e163 (by rw [hml]; rfl) (argsL := []) (rest := []) rfl (lenOf pd___J rfl) rfl (Nat.le_of_eq rfl) (pc' := 124) rfl (hb hby at_121) ?_
      rintro _ T164 L164 X164 ⟨rfl, N164, e164⟩
      have M164 := Fr.app M163 N164
      show own_Goes p e below T164 (mkF m 124 #[.val (.int p1), .val (.int p2), .val (.int p3), .val (.long q4), .second, .val (.int p5), .val (.ref o110), .val (.ref o115), .val (.int (0 : Int32)), .val (.int (1 : Int32)), .val (.int (1 : Int32))] [(.long q4)]) (own_Ret s (K_rm_law  Z h0 n0 p1 p2 p3 q4 p5) room_1.cells room_1.slots)
      refine own_lloadN X164 hx (pc' := 125) rfl (hb hby at_124) rfl ?_
      refine own_lcmp X164 hx (pc' := 126) rfl (hb hby at_125) ?_
      refine own_ifF X164 hx (pc' := 129) rfl (hb hby at_126) (XT.ll_ne_f rfl) ?_
      refine own_aload X164 hx (pc' := 131) rfl (hb hby at_129) rfl rfl ?_
      refine own_callV X164 hx hZ (y := (⟨"com/example/mayfly/mayfly/store/Item", "cas", "()J"⟩ : MethodName)) hown (hw _ (List.mem_of_getElem? (i := 48) rfl)) (hw _ (List.mem_of_getElem? (i := 49) rfl)) (hw _ (List.mem_of_getElem? (i := 51) rfl)) (hw _ (List.mem_of_getElem? (i := 50) rfl)) (hw _ (List.mem_of_getElem? (i := 3) rfl)) (hw _ (List.mem_of_getElem? (i := 52) rfl)) E153  (by decide) (rm_cas l Z a0 hw [] (0 : Int64) o115 h150 n0 S151 E153 G150_4) (by decide) (W := 0) (by decide) (by decide) (by decide) e164 (by rw [hml]; rfl) (argsL := []) (rest := []) rfl (lenOf pd___J rfl) rfl (Nat.le_of_eq rfl) (pc' := 134) rfl (hb hby at_131) ?_
      rintro _ T165 L165 X165 ⟨rfl, N165, e165⟩
      have M165 := Fr.app M164 N165
      show own_Goes p e below T165 (mkF m 134 #[.val (.int p1), .val (.int p2), .val (.int p3), .val (.long q4), .second, .val (.int p5), .val (.ref o110), .val (.ref o115), .val (.int (0 : Int32)), .val (.int (1 : Int32)), .val (.int (1 : Int32))] [(.long (0 : Int64))]) (own_Ret s (K_rm_law  Z h0 n0 p1 p2 p3 q4 p5) room_1.cells room_1.slots)
      refine own_lconst X165 hx (v := (0 : Int64)) (pc' := 135) rfl (hb hby at_134) rfl ?_
      refine own_lcmp X165 hx (pc' := 136) rfl (hb hby at_135) ?_
      refine own_ifF X165 hx (pc' := 139) rfl (hb hby at_136) (XT.ll_ne_f rfl) ?_
      refine own_iconst X165 hx (v := (1 : Int32)) (pc' := 140) rfl (hb hby at_139) rfl ?_
      refine own_goto X165 hx (pc' := 144) (hb hby at_140) (by decide) (by decide) ?_
      refine own_zret X165 hx hlk hret (by simp) (hb hby at_144) (by decide) (by decide) ?_
      rw [e165]
      exact ⟨rfl, M165⟩
  · refine own_newarr X0 hx hZ (aty := .byte) (hw _ (List.mem_of_getElem? (i := 0) rfl)) e0 (pc' := 5) rfl (hb hby at_3) (by decide) (N := 3) (by decide) (cap := 3) (by decide) (by decide) (by decide) (by decide) ?_
    intro T166 h166 X166 e166 E166 A166
    obtain ⟨o166, g166⟩ : ∃ z, z = h0.size := ⟨_, rfl⟩
    rw [← g166] at A166 ⊢
    have ge166 : n0 ≤ o166 := g166 ▸ Z0
    have S167 := Nat.le_trans Z0 E166.1
    refine own_astore X166 hx (Ls' := #[.val (.int p1), .val (.int p2), .val (.int p3), .val (.long q4), .second, .val (.int p5), .val (.ref o166), .unset, .unset, .unset, .unset]) (pc' := 7) rfl (hb hby at_5) rfl rfl ?_
    refine own_aload X166 hx (pc' := 9) rfl (hb hby at_7) rfl rfl ?_
    refine own_len X166 hx hZ e166 A166 (v := (3 : Int32)) (by decide) (pc' := 10) rfl (hb hby at_9) ?_
    refine own_ifF X166 hx (pc' := 13) rfl (hb hby at_10) (XT.i0_le_f (by decide)) ?_
    refine own_aload X166 hx (pc' := 15) rfl (hb hby at_13) rfl rfl ?_
    refine own_iconst X166 hx (v := (0 : Int32)) (pc' := 16) rfl (hb hby at_15) rfl ?_
    refine own_iloadN X166 hx (pc' := 17) rfl (hb hby at_16) rfl ?_
    refine own_i2b X166 hx (v := ((p2).toInt8.toInt32)) (pc' := 18) rfl (hb hby at_17) rfl ?_
    refine own_stB X166 hx hZ e166 A166 (k := 0) (by decide) (by decide) (by decide) (own_nb p2) (pc' := 19) rfl (hb hby at_18) ?_
    intro T168 h168 X168 e168 W168 A168
    have S169 := own_sizWr W168 S167
    have N168 := Fr.snoc X168 N0 ge166
    refine own_new X168 hx hZ hown (hw _ (List.mem_of_getElem? (i := 1) rfl)) (hw _ (List.mem_of_getElem? (i := 2) rfl)) (hw _ (List.mem_of_getElem? (i := 3) rfl)) e168 (pc' := 22) rfl (hb hby at_19) (by decide) (by decide) ?_
    intro T171 h171 X171 e171 E171 A171 D171
    obtain ⟨o171, g171⟩ : ∃ z, z = h168.size := ⟨_, rfl⟩
    rw [← g171] at A171 D171 ⊢
    have ne171_o166 : o166 ≠ o171 := Nat.ne_of_lt (g171 ▸ (own_Arr.lt A168))
    have ge171 : n0 ≤ o171 := g171 ▸ S169
    have S172 := Nat.le_trans S169 E171.1
    have A173 := own_Arr.ext E171 A168
    have F174 : Fld Z h171 o171 "com/example/mayfly/mayfly/store/Item" "value" "[B" .null := D171 (Or.inr (hw _ (List.mem_of_getElem? (i := 14) rfl))) (ty := (.array .byte)) (by decide)
    have F175 : Fld Z h171 o171 "com/example/mayfly/mayfly/store/Item" "flags" "I" (.int (0 : Int32)) := D171 (Or.inr (hw _ (List.mem_of_getElem? (i := 16) rfl))) (ty := .int) (by decide)
    have F176 : Fld Z h171 o171 "com/example/mayfly/mayfly/store/Item" "deadline" "J" (.long (0 : Int64)) := D171 (Or.inr (hw _ (List.mem_of_getElem? (i := 18) rfl))) (ty := .long) (by decide)
    have F177 : Fld Z h171 o171 "com/example/mayfly/mayfly/store/Item" "cas" "J" (.long (0 : Int64)) := D171 (Or.inr (hw _ (List.mem_of_getElem? (i := 20) rfl))) (ty := .long) (by decide)
    have F178 : Fld Z h171 o171 "com/example/mayfly/mayfly/store/Item" "read" "Z" (.int (0 : Int32)) := D171 (Or.inl (hw _ (List.mem_of_getElem? (i := 22) rfl))) (ty := .boolean) (by decide)
    refine own_dup X171 hx (pc' := 23) rfl (hb hby at_22) rfl ?_
    refine own_aload X171 hx (pc' := 25) rfl (hb hby at_23) rfl rfl ?_
    refine own_iloadN X171 hx (pc' := 26) rfl (hb hby at_25) rfl ?_
    refine own_lloadN X171 hx (pc' := 27) rfl (hb hby at_26) rfl ?_
    refine own_callC X171 hx hZ (y := (⟨"com/example/mayfly/mayfly/store/Item", "<init>", "([BIJ)V"⟩ : MethodName)) rfl hown (hw _ (List.mem_of_getElem? (i := 4) rfl)) (hw _ (List.mem_of_getElem? (i := 5) rfl)) (hw _ (List.mem_of_getElem? (i := 3) rfl)) (hw _ (List.mem_of_getElem? (i := 6) rfl))  (by decide) (rm_item3 l Z a0 hw [] o171 o166 p3 q4 h171 n0 S172 A171 F174 F175 F176 F177 F178 ge171) (by decide) (W := 1) (by decide) (by decide) (by decide) e171 (by rw [hml]; rfl) (argsL := [(.ref o166), (.int p3), (.long q4)]) (rest := [(.ref o171)]) rfl (lenOf pd___BIJ_V rfl) rfl (Nat.le_of_eq rfl) (pc' := 30) rfl (hb hby at_27) ?_
    rintro _ T179 L179 X179 ⟨rfl, N179, K179, G179_0, G179_1, G179_2, G179_3, G179_4, G179_5⟩
    have M179 := Fr.app N168 N179
    obtain ⟨h179, e179⟩ : ∃ z, T179.heap = z := ⟨_, rfl⟩
    rw [e179] at K179 G179_0 G179_1 G179_2 G179_3 G179_4 G179_5
    have S180 := Nat.le_trans S172 K179.1
    have A181 := own_Arr.keep K179 A173 (ninS ne171_o166 nin0)
    have E182 := A171.keep K179
    show own_Goes p e below T179 (mkF m 30 #[.val (.int p1), .val (.int p2), .val (.int p3), .val (.long q4), .second, .val (.int p5), .val (.ref o166), .unset, .unset, .unset, .unset] [(.ref o171)]) (own_Ret s (K_rm_law  Z h0 n0 p1 p2 p3 q4 p5) room_1.cells room_1.slots)
    refine own_astore X179 hx (Ls' := #[.val (.int p1), .val (.int p2), .val (.int p3), .val (.long q4), .second, .val (.int p5), .val (.ref o166), .val (.ref o171), .unset, .unset, .unset]) (pc' := 32) rfl (hb hby at_30) rfl rfl ?_
    refine own_aload X179 hx (pc' := 34) rfl (hb hby at_32) rfl rfl ?_
    refine own_callV X179 hx hZ (y := (⟨"com/example/mayfly/mayfly/store/Item", "wasRead", "()Z"⟩ : MethodName)) hown (hw _ (List.mem_of_getElem? (i := 23) rfl)) (hw _ (List.mem_of_getElem? (i := 24) rfl)) (hw _ (List.mem_of_getElem? (i := 26) rfl)) (hw _ (List.mem_of_getElem? (i := 25) rfl)) (hw _ (List.mem_of_getElem? (i := 3) rfl)) (hw _ (List.mem_of_getElem? (i := 27) rfl)) E182  (by decide) (rm_was l Z a0 hw [] (0 : Int32) o171 h179 n0 S180 E182 G179_5 (by decide)) (by decide) (W := 0) (by decide) (by decide) (by decide) e179 (by rw [hml]; rfl) (argsL := []) (rest := []) rfl (lenOf pd___Z rfl) rfl (Nat.le_of_eq rfl) (pc' := 37) rfl (hb hby at_34) ?_
    rintro _ T188 L188 X188 ⟨rfl, N188, e188⟩
    have M188 := Fr.app M179 N188
    show own_Goes p e below T188 (mkF m 37 #[.val (.int p1), .val (.int p2), .val (.int p3), .val (.long q4), .second, .val (.int p5), .val (.ref o166), .val (.ref o171), .unset, .unset, .unset] [(.int (0 : Int32))]) (own_Ret s (K_rm_law  Z h0 n0 p1 p2 p3 q4 p5) room_1.cells room_1.slots)
    refine own_istore X188 hx (Ls' := #[.val (.int p1), .val (.int p2), .val (.int p3), .val (.long q4), .second, .val (.int p5), .val (.ref o166), .val (.ref o171), .val (.int (0 : Int32)), .unset, .unset]) (pc' := 39) rfl (hb hby at_37) rfl ?_
    refine own_aload X188 hx (pc' := 41) rfl (hb hby at_39) rfl rfl ?_
    refine own_callV X188 hx hZ (y := (⟨"com/example/mayfly/mayfly/store/Item", "markRead", "()V"⟩ : MethodName)) hown (hw _ (List.mem_of_getElem? (i := 28) rfl)) (hw _ (List.mem_of_getElem? (i := 29) rfl)) (hw _ (List.mem_of_getElem? (i := 31) rfl)) (hw _ (List.mem_of_getElem? (i := 30) rfl)) (hw _ (List.mem_of_getElem? (i := 3) rfl)) (hw _ (List.mem_of_getElem? (i := 32) rfl)) E182  (by decide) (rm_mark l Z a0 hw [] o166 p3 q4 (0 : Int64) (0 : Int32) o171 h179 n0 S180 E182 G179_1 G179_2 G179_3 G179_4 G179_5 ge171 (by decide)) (by decide) (W := 0) (by decide) (by decide) (by decide) e188 (by rw [hml]; rfl) (argsL := []) (rest := []) rfl (lenOf pd___V rfl) rfl (Nat.le_of_eq rfl) (pc' := 44) rfl (hb hby at_41) ?_
    rintro _ T189 L189 X189 ⟨rfl, N189, K189, G189_0, G189_1, G189_2, G189_3, G189_4, G189_5⟩
    have M189 := Fr.app M188 N189
    obtain ⟨h189, e189⟩ : ∃ z, T189.heap = z := ⟨_, rfl⟩
    rw [e189] at K189 G189_0 G189_1 G189_2 G189_3 G189_4 G189_5
    have S190 := Nat.le_trans S180 K189.1
    have A191 := own_Arr.keep K189 A181 (ninS ne171_o166 nin0)
    have E192 := E182.keep K189
    have E193 := G179_0.keep K189
    show own_Goes p e below T189 (mkF m 44 #[.val (.int p1), .val (.int p2), .val (.int p3), .val (.long q4), .second, .val (.int p5), .val (.ref o166), .val (.ref o171), .val (.int (0 : Int32)), .unset, .unset] []) (own_Ret s (K_rm_law  Z h0 n0 p1 p2 p3 q4 p5) room_1.cells room_1.slots)
    refine own_aload X189 hx (pc' := 46) rfl (hb hby at_44) rfl rfl ?_
    refine own_callV X189 hx hZ (y := (⟨"com/example/mayfly/mayfly/store/Item", "wasRead", "()Z"⟩ : MethodName)) hown (hw _ (List.mem_of_getElem? (i := 23) rfl)) (hw _ (List.mem_of_getElem? (i := 24) rfl)) (hw _ (List.mem_of_getElem? (i := 26) rfl)) (hw _ (List.mem_of_getElem? (i := 25) rfl)) (hw _ (List.mem_of_getElem? (i := 3) rfl)) (hw _ (List.mem_of_getElem? (i := 27) rfl)) E192  (by decide) (rm_was l Z a0 hw [] (1 : Int32) o171 h189 n0 S190 E192 G189_5 (by decide)) (by decide) (W := 0) (by decide) (by decide) (by decide) e189 (by rw [hml]; rfl) (argsL := []) (rest := []) rfl (lenOf pd___Z rfl) rfl (Nat.le_of_eq rfl) (pc' := 49) rfl (hb hby at_46) ?_
    rintro _ T199 L199 X199 ⟨rfl, N199, e199⟩
    have M199 := Fr.app M189 N199
    show own_Goes p e below T199 (mkF m 49 #[.val (.int p1), .val (.int p2), .val (.int p3), .val (.long q4), .second, .val (.int p5), .val (.ref o166), .val (.ref o171), .val (.int (0 : Int32)), .unset, .unset] [(.int (1 : Int32))]) (own_Ret s (K_rm_law  Z h0 n0 p1 p2 p3 q4 p5) room_1.cells room_1.slots)
    refine own_istore X199 hx (Ls' := #[.val (.int p1), .val (.int p2), .val (.int p3), .val (.long q4), .second, .val (.int p5), .val (.ref o166), .val (.ref o171), .val (.int (0 : Int32)), .val (.int (1 : Int32)), .unset]) (pc' := 51) rfl (hb hby at_49) rfl ?_
    refine own_iload X199 hx (pc' := 53) rfl (hb hby at_51) rfl ?_
    refine own_iconst X199 hx (v := (1 : Int32)) (pc' := 54) rfl (hb hby at_53) rfl ?_
    refine own_iand X199 hx (v := (p5 &&& (1 : Int32))) (pc' := 55) rfl (hb hby at_54) rfl ?_
    by_cases c55_200 : (p5 &&& (1 : Int32)) = 0
    · refine own_ifT X199 hx (pc' := 63) (hb hby at_55) (XT.i0_eq_t c55_200) (by decide) (by decide) ?_
      refine own_aload X199 hx (pc' := 65) rfl (hb hby at_63) rfl rfl ?_
      refine own_callV X199 hx hZ (y := (⟨"com/example/mayfly/mayfly/store/Item", "wasRead", "()Z"⟩ : MethodName)) hown (hw _ (List.mem_of_getElem? (i := 23) rfl)) (hw _ (List.mem_of_getElem? (i := 24) rfl)) (hw _ (List.mem_of_getElem? (i := 26) rfl)) (hw _ (List.mem_of_getElem? (i := 25) rfl)) (hw _ (List.mem_of_getElem? (i := 3) rfl)) (hw _ (List.mem_of_getElem? (i := 27) rfl)) E192  (by decide) (rm_was l Z a0 hw [] (1 : Int32) o171 h189 n0 S190 E192 G189_5 (by decide)) (by decide) (W := 0) (by decide) (by decide) (by decide) e199 (by rw [hml]; rfl) (argsL := []) (rest := []) rfl (lenOf pd___Z rfl) rfl (Nat.le_of_eq rfl) (pc' := 68) rfl (hb hby at_65) ?_
      rintro _ T201 L201 X201 ⟨rfl, N201, e201⟩
      have M201 := Fr.app M199 N201
      show own_Goes p e below T201 (mkF m 68 #[.val (.int p1), .val (.int p2), .val (.int p3), .val (.long q4), .second, .val (.int p5), .val (.ref o166), .val (.ref o171), .val (.int (0 : Int32)), .val (.int (1 : Int32)), .unset] [(.int (1 : Int32))]) (own_Ret s (K_rm_law  Z h0 n0 p1 p2 p3 q4 p5) room_1.cells room_1.slots)
      refine own_istore X201 hx (Ls' := #[.val (.int p1), .val (.int p2), .val (.int p3), .val (.long q4), .second, .val (.int p5), .val (.ref o166), .val (.ref o171), .val (.int (0 : Int32)), .val (.int (1 : Int32)), .val (.int (1 : Int32))]) (pc' := 70) rfl (hb hby at_68) rfl ?_
      refine own_iload X201 hx (pc' := 72) rfl (hb hby at_70) rfl ?_
      refine own_ifF X201 hx (pc' := 75) rfl (hb hby at_72) (XT.i0_ne_f (by decide)) ?_
      refine own_iload X201 hx (pc' := 77) rfl (hb hby at_75) rfl ?_
      refine own_ifF X201 hx (pc' := 80) rfl (hb hby at_77) (XT.i0_eq_f (by decide)) ?_
      refine own_iload X201 hx (pc' := 82) rfl (hb hby at_80) rfl ?_
      refine own_ifF X201 hx (pc' := 85) rfl (hb hby at_82) (XT.i0_eq_f (by decide)) ?_
      refine own_aload X201 hx (pc' := 87) rfl (hb hby at_85) rfl rfl ?_
      refine own_callV X201 hx hZ (y := (⟨"com/example/mayfly/mayfly/store/Item", "value", "()[B"⟩ : MethodName)) hown (hw _ (List.mem_of_getElem? (i := 33) rfl)) (hw _ (List.mem_of_getElem? (i := 34) rfl)) (hw _ (List.mem_of_getElem? (i := 36) rfl)) (hw _ (List.mem_of_getElem? (i := 35) rfl)) (hw _ (List.mem_of_getElem? (i := 3) rfl)) (hw _ (List.mem_of_getElem? (i := 37) rfl)) E192  (by decide) (rm_val l Z a0 hw [] o166 o171 h189 n0 S190 E192 G189_1) (by decide) (W := 0) (by decide) (by decide) (by decide) e201 (by rw [hml]; rfl) (argsL := []) (rest := []) rfl (lenOf pd____B rfl) rfl (Nat.le_of_eq rfl) (pc' := 90) rfl (hb hby at_87) ?_
      rintro _ T202 L202 X202 ⟨rfl, N202, e202⟩
      have M202 := Fr.app M201 N202
      show own_Goes p e below T202 (mkF m 90 #[.val (.int p1), .val (.int p2), .val (.int p3), .val (.long q4), .second, .val (.int p5), .val (.ref o166), .val (.ref o171), .val (.int (0 : Int32)), .val (.int (1 : Int32)), .val (.int (1 : Int32))] [(.ref o166)]) (own_Ret s (K_rm_law  Z h0 n0 p1 p2 p3 q4 p5) room_1.cells room_1.slots)
      refine own_aload X202 hx (pc' := 92) rfl (hb hby at_90) rfl rfl ?_
      refine own_acmpF X202 hx (pc' := 95) rfl (hb hby at_92) rfl rfl (XT.aa_ne_f rfl) ?_
      refine own_aload X202 hx (pc' := 97) rfl (hb hby at_95) rfl rfl ?_
      refine own_len X202 hx hZ e202 A191 (v := (3 : Int32)) (by decide) (pc' := 98) rfl (hb hby at_97) ?_
      refine own_ifF X202 hx (pc' := 101) rfl (hb hby at_98) (XT.i0_eq_f (by decide)) ?_
      refine own_aload X202 hx (pc' := 103) rfl (hb hby at_101) rfl rfl ?_
      refine own_iconst X202 hx (v := (0 : Int32)) (pc' := 104) rfl (hb hby at_103) rfl ?_
      refine own_ldB X202 hx hZ e202 A191 (k := 0) (by decide) (by decide) (by decide) (v := (.int ((p2).toInt8.toInt32))) rfl (pc' := 105) rfl (hb hby at_104) ?_
      refine own_iloadN X202 hx (pc' := 106) rfl (hb hby at_105) rfl ?_
      refine own_i2b X202 hx (v := ((p2).toInt8.toInt32)) (pc' := 107) rfl (hb hby at_106) rfl ?_
      refine own_icmpF X202 hx (pc' := 110) rfl (hb hby at_107) (XT.ii_ne_f rfl) ?_
      refine own_aload X202 hx (pc' := 112) rfl (hb hby at_110) rfl rfl ?_
      refine own_callV X202 hx hZ (y := (⟨"com/example/mayfly/mayfly/store/Item", "flags", "()I"⟩ : MethodName)) hown (hw _ (List.mem_of_getElem? (i := 38) rfl)) (hw _ (List.mem_of_getElem? (i := 39) rfl)) (hw _ (List.mem_of_getElem? (i := 41) rfl)) (hw _ (List.mem_of_getElem? (i := 40) rfl)) (hw _ (List.mem_of_getElem? (i := 3) rfl)) (hw _ (List.mem_of_getElem? (i := 42) rfl)) E192  (by decide) (rm_flg l Z a0 hw [] p3 o171 h189 n0 S190 E192 G189_2) (by decide) (W := 0) (by decide) (by decide) (by decide) e202 (by rw [hml]; rfl) (argsL := []) (rest := []) rfl (lenOf pd___I rfl) rfl (Nat.le_of_eq rfl) (pc' := 115) rfl (hb hby at_112) ?_
      rintro _ T203 L203 X203 ⟨rfl, N203, e203⟩
      have M203 := Fr.app M202 N203
      show own_Goes p e below T203 (mkF m 115 #[.val (.int p1), .val (.int p2), .val (.int p3), .val (.long q4), .second, .val (.int p5), .val (.ref o166), .val (.ref o171), .val (.int (0 : Int32)), .val (.int (1 : Int32)), .val (.int (1 : Int32))] [(.int p3)]) (own_Ret s (K_rm_law  Z h0 n0 p1 p2 p3 q4 p5) room_1.cells room_1.slots)
      refine own_iloadN X203 hx (pc' := 116) rfl (hb hby at_115) rfl ?_
      refine own_icmpF X203 hx (pc' := 119) rfl (hb hby at_116) (XT.ii_ne_f rfl) ?_
      refine own_aload X203 hx (pc' := 121) rfl (hb hby at_119) rfl rfl ?_
      refine own_callV X203 hx hZ (y := (⟨"com/example/mayfly/mayfly/store/Item", "deadline", "()J"⟩ : MethodName)) hown (hw _ (List.mem_of_getElem? (i := 43) rfl)) (hw _ (List.mem_of_getElem? (i := 44) rfl)) (hw _ (List.mem_of_getElem? (i := 46) rfl)) (hw _ (List.mem_of_getElem? (i := 45) rfl)) (hw _ (List.mem_of_getElem? (i := 3) rfl)) (hw _ (List.mem_of_getElem? (i := 47) rfl)) E192  (by decide) (rm_ddl l Z a0 hw [] q4 o171 h189 n0 S190 E192 G189_3) (by decide) (W := 0) (by decide) (by decide) (by decide) e203 (by rw [hml]; rfl) (argsL := []) (rest := []) rfl (lenOf pd___J rfl) rfl (Nat.le_of_eq rfl) (pc' := 124) rfl (hb hby at_121) ?_
      rintro _ T204 L204 X204 ⟨rfl, N204, e204⟩
      have M204 := Fr.app M203 N204
      show own_Goes p e below T204 (mkF m 124 #[.val (.int p1), .val (.int p2), .val (.int p3), .val (.long q4), .second, .val (.int p5), .val (.ref o166), .val (.ref o171), .val (.int (0 : Int32)), .val (.int (1 : Int32)), .val (.int (1 : Int32))] [(.long q4)]) (own_Ret s (K_rm_law  Z h0 n0 p1 p2 p3 q4 p5) room_1.cells room_1.slots)
      refine own_lloadN X204 hx (pc' := 125) rfl (hb hby at_124) rfl ?_
      refine own_lcmp X204 hx (pc' := 126) rfl (hb hby at_125) ?_
      refine own_ifF X204 hx (pc' := 129) rfl (hb hby at_126) (XT.ll_ne_f rfl) ?_
      refine own_aload X204 hx (pc' := 131) rfl (hb hby at_129) rfl rfl ?_
      refine own_callV X204 hx hZ (y := (⟨"com/example/mayfly/mayfly/store/Item", "cas", "()J"⟩ : MethodName)) hown (hw _ (List.mem_of_getElem? (i := 48) rfl)) (hw _ (List.mem_of_getElem? (i := 49) rfl)) (hw _ (List.mem_of_getElem? (i := 51) rfl)) (hw _ (List.mem_of_getElem? (i := 50) rfl)) (hw _ (List.mem_of_getElem? (i := 3) rfl)) (hw _ (List.mem_of_getElem? (i := 52) rfl)) E192  (by decide) (rm_cas l Z a0 hw [] (0 : Int64) o171 h189 n0 S190 E192 G189_4) (by decide) (W := 0) (by decide) (by decide) (by decide) e204 (by rw [hml]; rfl) (argsL := []) (rest := []) rfl (lenOf pd___J rfl) rfl (Nat.le_of_eq rfl) (pc' := 134) rfl (hb hby at_131) ?_
      rintro _ T205 L205 X205 ⟨rfl, N205, e205⟩
      have M205 := Fr.app M204 N205
      show own_Goes p e below T205 (mkF m 134 #[.val (.int p1), .val (.int p2), .val (.int p3), .val (.long q4), .second, .val (.int p5), .val (.ref o166), .val (.ref o171), .val (.int (0 : Int32)), .val (.int (1 : Int32)), .val (.int (1 : Int32))] [(.long (0 : Int64))]) (own_Ret s (K_rm_law  Z h0 n0 p1 p2 p3 q4 p5) room_1.cells room_1.slots)
      refine own_lconst X205 hx (v := (0 : Int64)) (pc' := 135) rfl (hb hby at_134) rfl ?_
      refine own_lcmp X205 hx (pc' := 136) rfl (hb hby at_135) ?_
      refine own_ifF X205 hx (pc' := 139) rfl (hb hby at_136) (XT.ll_ne_f rfl) ?_
      refine own_iconst X205 hx (v := (1 : Int32)) (pc' := 140) rfl (hb hby at_139) rfl ?_
      refine own_goto X205 hx (pc' := 144) (hb hby at_140) (by decide) (by decide) ?_
      refine own_zret X205 hx hlk hret (by simp) (hb hby at_144) (by decide) (by decide) ?_
      rw [e205]
      exact ⟨rfl, M205⟩
    · refine own_ifF X199 hx (pc' := 58) rfl (hb hby at_55) (XT.i0_eq_f c55_200) ?_
      refine own_aload X199 hx (pc' := 60) rfl (hb hby at_58) rfl rfl ?_
      refine own_callV X199 hx hZ (y := (⟨"com/example/mayfly/mayfly/store/Item", "markRead", "()V"⟩ : MethodName)) hown (hw _ (List.mem_of_getElem? (i := 28) rfl)) (hw _ (List.mem_of_getElem? (i := 29) rfl)) (hw _ (List.mem_of_getElem? (i := 31) rfl)) (hw _ (List.mem_of_getElem? (i := 30) rfl)) (hw _ (List.mem_of_getElem? (i := 3) rfl)) (hw _ (List.mem_of_getElem? (i := 32) rfl)) E192  (by decide) (rm_mark l Z a0 hw [] o166 p3 q4 (0 : Int64) (1 : Int32) o171 h189 n0 S190 E192 G189_1 G189_2 G189_3 G189_4 G189_5 ge171 (by decide)) (by decide) (W := 0) (by decide) (by decide) (by decide) e199 (by rw [hml]; rfl) (argsL := []) (rest := []) rfl (lenOf pd___V rfl) rfl (Nat.le_of_eq rfl) (pc' := 63) rfl (hb hby at_60) ?_
      rintro _ T206 L206 X206 ⟨rfl, N206, K206, G206_0, G206_1, G206_2, G206_3, G206_4, G206_5⟩
      have M206 := Fr.app M199 N206
      obtain ⟨h206, e206⟩ : ∃ z, T206.heap = z := ⟨_, rfl⟩
      rw [e206] at K206 G206_0 G206_1 G206_2 G206_3 G206_4 G206_5
      have S207 := Nat.le_trans S190 K206.1
      have A208 := own_Arr.keep K206 A191 (ninS ne171_o166 nin0)
      have E209 := E192.keep K206
      have E210 := E193.keep K206
      have E211 := G189_0.keep K206
      show own_Goes p e below T206 (mkF m 63 #[.val (.int p1), .val (.int p2), .val (.int p3), .val (.long q4), .second, .val (.int p5), .val (.ref o166), .val (.ref o171), .val (.int (0 : Int32)), .val (.int (1 : Int32)), .unset] []) (own_Ret s (K_rm_law  Z h0 n0 p1 p2 p3 q4 p5) room_1.cells room_1.slots)
      refine own_aload X206 hx (pc' := 65) rfl (hb hby at_63) rfl rfl ?_
      refine own_callV X206 hx hZ (y := (⟨"com/example/mayfly/mayfly/store/Item", "wasRead", "()Z"⟩ : MethodName)) hown (hw _ (List.mem_of_getElem? (i := 23) rfl)) (hw _ (List.mem_of_getElem? (i := 24) rfl)) (hw _ (List.mem_of_getElem? (i := 26) rfl)) (hw _ (List.mem_of_getElem? (i := 25) rfl)) (hw _ (List.mem_of_getElem? (i := 3) rfl)) (hw _ (List.mem_of_getElem? (i := 27) rfl)) E209  (by decide) (rm_was l Z a0 hw [] (1 : Int32) o171 h206 n0 S207 E209 G206_5 (by decide)) (by decide) (W := 0) (by decide) (by decide) (by decide) e206 (by rw [hml]; rfl) (argsL := []) (rest := []) rfl (lenOf pd___Z rfl) rfl (Nat.le_of_eq rfl) (pc' := 68) rfl (hb hby at_65) ?_
      rintro _ T217 L217 X217 ⟨rfl, N217, e217⟩
      have M217 := Fr.app M206 N217
      show own_Goes p e below T217 (mkF m 68 #[.val (.int p1), .val (.int p2), .val (.int p3), .val (.long q4), .second, .val (.int p5), .val (.ref o166), .val (.ref o171), .val (.int (0 : Int32)), .val (.int (1 : Int32)), .unset] [(.int (1 : Int32))]) (own_Ret s (K_rm_law  Z h0 n0 p1 p2 p3 q4 p5) room_1.cells room_1.slots)
      refine own_istore X217 hx (Ls' := #[.val (.int p1), .val (.int p2), .val (.int p3), .val (.long q4), .second, .val (.int p5), .val (.ref o166), .val (.ref o171), .val (.int (0 : Int32)), .val (.int (1 : Int32)), .val (.int (1 : Int32))]) (pc' := 70) rfl (hb hby at_68) rfl ?_
      refine own_iload X217 hx (pc' := 72) rfl (hb hby at_70) rfl ?_
      refine own_ifF X217 hx (pc' := 75) rfl (hb hby at_72) (XT.i0_ne_f (by decide)) ?_
      refine own_iload X217 hx (pc' := 77) rfl (hb hby at_75) rfl ?_
      refine own_ifF X217 hx (pc' := 80) rfl (hb hby at_77) (XT.i0_eq_f (by decide)) ?_
      refine own_iload X217 hx (pc' := 82) rfl (hb hby at_80) rfl ?_
      refine own_ifF X217 hx (pc' := 85) rfl (hb hby at_82) (XT.i0_eq_f (by decide)) ?_
      refine own_aload X217 hx (pc' := 87) rfl (hb hby at_85) rfl rfl ?_
      refine own_callV X217 hx hZ (y := (⟨"com/example/mayfly/mayfly/store/Item", "value", "()[B"⟩ : MethodName)) hown (hw _ (List.mem_of_getElem? (i := 33) rfl)) (hw _ (List.mem_of_getElem? (i := 34) rfl)) (hw _ (List.mem_of_getElem? (i := 36) rfl)) (hw _ (List.mem_of_getElem? (i := 35) rfl)) (hw _ (List.mem_of_getElem? (i := 3) rfl)) (hw _ (List.mem_of_getElem? (i := 37) rfl)) E209  (by decide) (rm_val l Z a0 hw [] o166 o171 h206 n0 S207 E209 G206_1) (by decide) (W := 0) (by decide) (by decide) (by decide) e217 (by rw [hml]; rfl) (argsL := []) (rest := []) rfl (lenOf pd____B rfl) rfl (Nat.le_of_eq rfl) (pc' := 90) rfl (hb hby at_87) ?_
      rintro _ T218 L218 X218 ⟨rfl, N218, e218⟩
      have M218 := Fr.app M217 N218
      show own_Goes p e below T218 (mkF m 90 #[.val (.int p1), .val (.int p2), .val (.int p3), .val (.long q4), .second, .val (.int p5), .val (.ref o166), .val (.ref o171), .val (.int (0 : Int32)), .val (.int (1 : Int32)), .val (.int (1 : Int32))] [(.ref o166)]) (own_Ret s (K_rm_law  Z h0 n0 p1 p2 p3 q4 p5) room_1.cells room_1.slots)
      refine own_aload X218 hx (pc' := 92) rfl (hb hby at_90) rfl rfl ?_
      refine own_acmpF X218 hx (pc' := 95) rfl (hb hby at_92) rfl rfl (XT.aa_ne_f rfl) ?_
      refine own_aload X218 hx (pc' := 97) rfl (hb hby at_95) rfl rfl ?_
      refine own_len X218 hx hZ e218 A208 (v := (3 : Int32)) (by decide) (pc' := 98) rfl (hb hby at_97) ?_
      refine own_ifF X218 hx (pc' := 101) rfl (hb hby at_98) (XT.i0_eq_f (by decide)) ?_
      refine own_aload X218 hx (pc' := 103) rfl (hb hby at_101) rfl rfl ?_
      refine own_iconst X218 hx (v := (0 : Int32)) (pc' := 104) rfl (hb hby at_103) rfl ?_
      refine own_ldB X218 hx hZ e218 A208 (k := 0) (by decide) (by decide) (by decide) (v := (.int ((p2).toInt8.toInt32))) rfl (pc' := 105) rfl (hb hby at_104) ?_
      refine own_iloadN X218 hx (pc' := 106) rfl (hb hby at_105) rfl ?_
      refine own_i2b X218 hx (v := ((p2).toInt8.toInt32)) (pc' := 107) rfl (hb hby at_106) rfl ?_
      refine own_icmpF X218 hx (pc' := 110) rfl (hb hby at_107) (XT.ii_ne_f rfl) ?_
      refine own_aload X218 hx (pc' := 112) rfl (hb hby at_110) rfl rfl ?_
      refine own_callV X218 hx hZ (y := (⟨"com/example/mayfly/mayfly/store/Item", "flags", "()I"⟩ : MethodName)) hown (hw _ (List.mem_of_getElem? (i := 38) rfl)) (hw _ (List.mem_of_getElem? (i := 39) rfl)) (hw _ (List.mem_of_getElem? (i := 41) rfl)) (hw _ (List.mem_of_getElem? (i := 40) rfl)) (hw _ (List.mem_of_getElem? (i := 3) rfl)) (hw _ (List.mem_of_getElem? (i := 42) rfl)) E209  (by decide) (rm_flg l Z a0 hw [] p3 o171 h206 n0 S207 E209 G206_2) (by decide) (W := 0) (by decide) (by decide) (by decide) e218 (by rw [hml]; rfl) (argsL := []) (rest := []) rfl (lenOf pd___I rfl) rfl (Nat.le_of_eq rfl) (pc' := 115) rfl (hb hby at_112) ?_
      rintro _ T219 L219 X219 ⟨rfl, N219, e219⟩
      have M219 := Fr.app M218 N219
      show own_Goes p e below T219 (mkF m 115 #[.val (.int p1), .val (.int p2), .val (.int p3), .val (.long q4), .second, .val (.int p5), .val (.ref o166), .val (.ref o171), .val (.int (0 : Int32)), .val (.int (1 : Int32)), .val (.int (1 : Int32))] [(.int p3)]) (own_Ret s (K_rm_law  Z h0 n0 p1 p2 p3 q4 p5) room_1.cells room_1.slots)
      refine own_iloadN X219 hx (pc' := 116) rfl (hb hby at_115) rfl ?_
      refine own_icmpF X219 hx (pc' := 119) rfl (hb hby at_116) (XT.ii_ne_f rfl) ?_
      refine own_aload X219 hx (pc' := 121) rfl (hb hby at_119) rfl rfl ?_
      refine own_callV X219 hx hZ (y := (⟨"com/example/mayfly/mayfly/store/Item", "deadline", "()J"⟩ : MethodName)) hown (hw _ (List.mem_of_getElem? (i := 43) rfl)) (hw _ (List.mem_of_getElem? (i := 44) rfl)) (hw _ (List.mem_of_getElem? (i := 46) rfl)) (hw _ (List.mem_of_getElem? (i := 45) rfl)) (hw _ (List.mem_of_getElem? (i := 3) rfl)) (hw _ (List.mem_of_getElem? (i := 47) rfl)) E209  (by decide) (rm_ddl l Z a0 hw [] q4 o171 h206 n0 S207 E209 G206_3) (by decide) (W := 0) (by decide) (by decide) (by decide) e219 (by rw [hml]; rfl) (argsL := []) (rest := []) rfl (lenOf pd___J rfl) rfl (Nat.le_of_eq rfl) (pc' := 124) rfl (hb hby at_121) ?_
      rintro _ T220 L220 X220 ⟨rfl, N220, e220⟩
      have M220 := Fr.app M219 N220
      show own_Goes p e below T220 (mkF m 124 #[.val (.int p1), .val (.int p2), .val (.int p3), .val (.long q4), .second, .val (.int p5), .val (.ref o166), .val (.ref o171), .val (.int (0 : Int32)), .val (.int (1 : Int32)), .val (.int (1 : Int32))] [(.long q4)]) (own_Ret s (K_rm_law  Z h0 n0 p1 p2 p3 q4 p5) room_1.cells room_1.slots)
      refine own_lloadN X220 hx (pc' := 125) rfl (hb hby at_124) rfl ?_
      refine own_lcmp X220 hx (pc' := 126) rfl (hb hby at_125) ?_
      refine own_ifF X220 hx (pc' := 129) rfl (hb hby at_126) (XT.ll_ne_f rfl) ?_
      refine own_aload X220 hx (pc' := 131) rfl (hb hby at_129) rfl rfl ?_
      refine own_callV X220 hx hZ (y := (⟨"com/example/mayfly/mayfly/store/Item", "cas", "()J"⟩ : MethodName)) hown (hw _ (List.mem_of_getElem? (i := 48) rfl)) (hw _ (List.mem_of_getElem? (i := 49) rfl)) (hw _ (List.mem_of_getElem? (i := 51) rfl)) (hw _ (List.mem_of_getElem? (i := 50) rfl)) (hw _ (List.mem_of_getElem? (i := 3) rfl)) (hw _ (List.mem_of_getElem? (i := 52) rfl)) E209  (by decide) (rm_cas l Z a0 hw [] (0 : Int64) o171 h206 n0 S207 E209 G206_4) (by decide) (W := 0) (by decide) (by decide) (by decide) e220 (by rw [hml]; rfl) (argsL := []) (rest := []) rfl (lenOf pd___J rfl) rfl (Nat.le_of_eq rfl) (pc' := 134) rfl (hb hby at_131) ?_
      rintro _ T221 L221 X221 ⟨rfl, N221, e221⟩
      have M221 := Fr.app M220 N221
      show own_Goes p e below T221 (mkF m 134 #[.val (.int p1), .val (.int p2), .val (.int p3), .val (.long q4), .second, .val (.int p5), .val (.ref o166), .val (.ref o171), .val (.int (0 : Int32)), .val (.int (1 : Int32)), .val (.int (1 : Int32))] [(.long (0 : Int64))]) (own_Ret s (K_rm_law  Z h0 n0 p1 p2 p3 q4 p5) room_1.cells room_1.slots)
      refine own_lconst X221 hx (v := (0 : Int64)) (pc' := 135) rfl (hb hby at_134) rfl ?_
      refine own_lcmp X221 hx (pc' := 136) rfl (hb hby at_135) ?_
      refine own_ifF X221 hx (pc' := 139) rfl (hb hby at_136) (XT.ll_ne_f rfl) ?_
      refine own_iconst X221 hx (v := (1 : Int32)) (pc' := 140) rfl (hb hby at_139) rfl ?_
      refine own_goto X221 hx (pc' := 144) (hb hby at_140) (by decide) (by decide) ?_
      refine own_zret X221 hx hlk hret (by simp) (hb hby at_144) (by decide) (by decide) ?_
      rw [e221]
      exact ⟨rfl, M221⟩
set_option maxRecDepth 65536 in
set_option maxHeartbeats 40000000 in
theorem comes_1 {Post : Tables → Env → Array Value → State → Outcome → State → Prop} (hpost : ∀ tb e args s v u, (limb_1_1.after args s (.returned v) u = true ∧ limb_1_2.after args s (.returned v) u = true ∧ True) → FrameEnd s (.returned v) u (Jvm.fieldLocs frame_1_writes args s ++ Jvm.arrayLocs frame_1_arrays args s ++ Jvm.staticLocs frame_1_statics s) 16 128 → Post tb e args s (.returned v) u) :
    ArmFor flags0 classFile x code maxLocals ret World_1 tables_1 room_1 Calls_1 rest_1 Pre_1 Post := by
  intro l hfl _ _ p e ha hc hk s m args below hf hA hF happ hP
  obtain ⟨hcalls, hrest, hpre⟩ := hP
  obtain ⟨-, -, -, hnamed, -, -, -, hat⟩ := (Spec.applies_iff hf).mp happ
  obtain ⟨hg, hn⟩ := and_e (Cond.before_iff.mp (show (Jvm.Cond.and given_1 narrow_1).before args s = true from hpre))
  obtain ⟨h1, hg1⟩ := and_e hg
  obtain ⟨w0, w1, w2, w3, w4, rfl⟩ : ∃ w0 w1 w2 w3 w4 : Value, args = #[w0, w1, w2, w3, w4] := by
    have hs : args.size = 5 := by simpa [Cond.value, given_1] using h1
    obtain ⟨L⟩ := args
    match L, hs with
    | [w0, w1, w2, w3, w4], _ => exact ⟨w0, w1, w2, w3, w4, rfl⟩
  have hw := fun d (hd : d ∈ tables_1) => atoms_spec (ws := Jvm.Cond.code x code maxLocals ret :: tables_1) hat d (List.mem_cons_of_mem _ hd)
  have hfit : Fit s := fun {y c} hc i hi => by
    obtain ⟨ha, rfl⟩ := Array.getElem?_eq_some_iff.mp hc
    have q := List.all_eq_true.mp ((Array.all_eq_true_iff_forall_mem.mp hF) _ (Array.getElem_mem ha)) i (List.mem_range.mpr hi)
    simpa [Array.getElem?_eq_getElem hi] using q
  obtain ⟨q0, hg2⟩ := and_e hg1
  obtain ⟨i0, ee0⟩ := is_v q0
  obtain rfl : w0 = (.int i0) := Option.some.inj ee0
  obtain ⟨q1, hg3⟩ := and_e hg2
  obtain ⟨i1, ee1⟩ := is_v q1
  obtain rfl : w1 = (.int i1) := Option.some.inj ee1
  obtain ⟨q2, hg4⟩ := and_e hg3
  obtain ⟨i2, ee2⟩ := is_v q2
  obtain rfl : w2 = (.int i2) := Option.some.inj ee2
  obtain ⟨q3, hg5⟩ := and_e hg4
  obtain ⟨i3, ee3⟩ := isL_v q3
  obtain rfl : w3 = (.long i3) := Option.some.inj ee3
  obtain ⟨i4, ee4⟩ := is_v hg5
  obtain rfl : w4 = (.int i4) := Option.some.inj ee4
  obtain ⟨n, o, h1, h2, h3, _, L, rfl, ⟨rfl, N⟩, hq⟩ := rm_law l s _ hw tables_1  i0 i1 i2 i3 i4 s.heap s.heap.size (Nat.le_refl _) p e ha hc hk s m _ below hf ((Spec.applies_iff_loose hf).mp happ).1 ⟨rfl, State.Warmed39.refl s, rfl⟩ trivial
  refine ⟨n, _, h1, h2, h3, hpost _ _ _ _ _ _ ⟨Cond.after_iff.mpr rfl, Cond.after_iff.mpr (eq_i res_at (Term.int_eval (1)) rfl), trivial⟩ ⟨hq.1, hq.2.1, (hq.2.2.sift fun y hy => Or.inr (N y hy)).mono (by decide) (by decide)⟩⟩
theorem main_1_1 : Claimed_1_1 := comes_1 fun _ _ _ _ _ _ h hF => ⟨h.1, hF⟩
theorem main_1_2 : Claimed_1_2 := comes_1 fun _ _ _ _ _ _ h hF => ⟨h.2.1, hF⟩
end Jvm.Pilot.@@N@@
namespace Jvm.Pilot.@@N@@
open Jvm Jvm.ClassFile Sem Op Lib Jvm.Free Jvm.Stand Jvm.Pilot.@@N@@.Jvm.D
/-! MADE BY PROGRAM (witnessworld.py) out of the Statement's table words and the real class files: 9 classes; the members and pool entries that the words name. The judged class is class 1, her method 1. -/
namespace start1
open Jvm.ClassFile
def u (s : String) : CpInfo := .utf8 (stringToUtf16 s)
/-- a pool by its gaps: so many unusable entries, then the entry; so many at the end -/
def gap : Nat → List CpInfo → List CpInfo
  | 0, r => r
  | n + 1, r => .unusable :: gap n r
def poolList (es : List (Nat × CpInfo)) (last : Nat) : List CpInfo := es.foldr (fun e r => gap e.1 (e.2 :: r)) (gap last [])
def pool (es : List (Nat × CpInfo)) (last : Nat) : Array CpInfo := ⟨poolList es last⟩
def fileOf (pool : Array CpInfo) (this : Nat) (attrs : Array Attribute := #[]) (ms : Array MethodInfo := #[]) (fl : Nat := 33) (sup : Nat := 0) (ifs : Array Nat := #[]) (fds : Array FieldInfo := #[]) : ClassFile where
  minorVersion := 0
  majorVersion := 65
  constantPool := pool
  accessFlags := fl
  thisClass := this
  superClass := sup
  interfaces := ifs
  fields := fds
  methods := ms
  attributes := attrs
def plain (name : String) (sup : Option ClassId) : Class where
  name := name
  kind := .ordinary
  loader := none
  accessFlags := 33
  super := sup
  interfaces := #[]
  cf := none
  fields := #[]
  methods := #[]
  instanceTypes := #[]
  staticTypes := #[]
  resolved := #[]
  callSites := []
  init := .initialized
  statics := none
  mirror := none

def pool0 : Array CpInfo := pool [(5, u "<init>"), (0, u "()V"), (1, .class_ 10), (1, u "java/lang/Object")] 113

def k0c0 : Code := { maxStack := 0, maxLocals := 1, code := object_method_1_code, exceptionTable := #[], attributes := #[] }
def k0m0 : Method := { name := "<init>", desc := "()V", sig := { parameters := [], returnType := none }, accessFlags := 1, code := some k0c0 }
/-- java/lang/Object -/
def k0 : Class := { plain "java/lang/Object" none with
  accessFlags := 33
  interfaces := #[]
  cf := some (fileOf pool0 8 #[] #[{ accessFlags := 1, nameIndex := 5, descriptorIndex := 6, attributes := #[] }] 33 0 #[] #[])
  fields := #[]
  methods := #[k0m0]
  instanceTypes := #[]
  staticTypes := #[]
  resolved := Array.replicate 124 none
  statics := none }

def pool1 : Array CpInfo := pool [(2, .class_ 4), (1, u "java/lang/Object"), (0, u "<init>"), (0, u "()V"), (0, .class_ 8), (0, u "com/example/mayfly/mayfly/store/Item"), (0, .methodref 7 10), (0, .nameAndType 5 11), (0, u "([BIJ)V"), (0, .methodref 7 13), (0, .nameAndType 14 15), (0, u "wasRead"), (0, u "()Z"), (0, .methodref 7 17), (0, .nameAndType 18 6), (0, u "markRead"), (0, .methodref 7 20), (0, .nameAndType 21 22), (0, u "value"), (0, u "()[B"), (0, .methodref 7 24), (0, .nameAndType 25 26), (0, u "flags"), (0, u "()I"), (0, .methodref 7 28), (0, .nameAndType 29 30), (0, u "deadline"), (0, u "()J"), (0, .methodref 7 32), (0, .nameAndType 33 30), (0, u "cas"), (0, .class_ 35), (0, u "com/example/mayfly/mayfly/store/ItemMarkReadPinLaw"), (2, u "law"), (0, u "(IIIJI)Z")] 5

def k1m0 : Method := { name := "<init>", desc := "()V", sig := { parameters := [], returnType := none }, accessFlags := 1, code := none }
def k1c1 : Code := { maxStack := 6, maxLocals := 11, code := code, exceptionTable := #[], attributes := #[] }
def k1m1 : Method := { name := "law", desc := "(IIIJI)Z", sig := { parameters := [.int, .int, .int, .long, .int], returnType := some .boolean }, accessFlags := 9, code := some k1c1 }
/-- com/example/mayfly/mayfly/store/ItemMarkReadPinLaw -/
def k1 : Class := { plain "com/example/mayfly/mayfly/store/ItemMarkReadPinLaw" (some 0) with
  accessFlags := 49
  interfaces := #[]
  cf := some (fileOf pool1 34 #[] #[{ accessFlags := 1, nameIndex := 5, descriptorIndex := 6, attributes := #[] }, { accessFlags := 9, nameIndex := 38, descriptorIndex := 39, attributes := #[] }] 49 2 #[] #[])
  fields := #[]
  methods := #[k1m0, k1m1]
  instanceTypes := #[]
  staticTypes := #[]
  resolved := Array.replicate 45 none
  statics := none }

def pool2 : Array CpInfo := pool [(1, .methodref 2 3), (0, .class_ 4), (0, .nameAndType 5 6), (0, u "com/example/mayfly/mayfly/store/Item"), (0, u "<init>"), (0, u "([BIJJZ)V"), (0, .methodref 8 9), (0, .class_ 10), (0, .nameAndType 5 11), (0, u "java/lang/Object"), (0, u "()V"), (0, .fieldref 2 13), (0, .nameAndType 14 15), (0, u "value"), (0, u "[B"), (0, .fieldref 2 17), (0, .nameAndType 18 19), (0, u "flags"), (0, u "I"), (0, .fieldref 2 21), (0, .nameAndType 22 23), (0, u "deadline"), (0, u "J"), (0, .fieldref 2 25), (0, .nameAndType 26 23), (0, u "cas"), (0, .fieldref 2 28), (0, .nameAndType 29 30), (0, u "read"), (0, u "Z"), (0, u "([BIJ)V"), (2, u "()[B"), (0, u "()I"), (0, u "()J"), (0, u "markRead"), (1, u "wasRead"), (0, u "()Z")] 5

def k2c0 : Code := { maxStack := 8, maxLocals := 5, code := prog_15_method_1_code, exceptionTable := #[], attributes := #[] }
def k2m0 : Method := { name := "<init>", desc := "([BIJ)V", sig := { parameters := [(.array .byte), .int, .long], returnType := none }, accessFlags := 1, code := some k2c0 }
def k2c1 : Code := { maxStack := 3, maxLocals := 8, code := prog_15_method_2_code, exceptionTable := #[], attributes := #[] }
def k2m1 : Method := { name := "<init>", desc := "([BIJJZ)V", sig := { parameters := [(.array .byte), .int, .long, .long, .boolean], returnType := none }, accessFlags := 2, code := some k2c1 }
def k2c2 : Code := { maxStack := 1, maxLocals := 1, code := prog_15_method_3_code, exceptionTable := #[], attributes := #[] }
def k2m2 : Method := { name := "value", desc := "()[B", sig := { parameters := [], returnType := some (.array .byte) }, accessFlags := 1, code := some k2c2 }
def k2c3 : Code := { maxStack := 1, maxLocals := 1, code := prog_15_method_4_code, exceptionTable := #[], attributes := #[] }
def k2m3 : Method := { name := "flags", desc := "()I", sig := { parameters := [], returnType := some .int }, accessFlags := 1, code := some k2c3 }
def k2c4 : Code := { maxStack := 2, maxLocals := 1, code := prog_15_method_5_code, exceptionTable := #[], attributes := #[] }
def k2m4 : Method := { name := "deadline", desc := "()J", sig := { parameters := [], returnType := some .long }, accessFlags := 1, code := some k2c4 }
def k2c5 : Code := { maxStack := 2, maxLocals := 1, code := prog_15_method_6_code, exceptionTable := #[], attributes := #[] }
def k2m5 : Method := { name := "cas", desc := "()J", sig := { parameters := [], returnType := some .long }, accessFlags := 1, code := some k2c5 }
def k2c6 : Code := { maxStack := 2, maxLocals := 1, code := prog_15_method_7_code, exceptionTable := #[], attributes := #[] }
def k2m6 : Method := { name := "markRead", desc := "()V", sig := { parameters := [], returnType := none }, accessFlags := 1, code := some k2c6 }
def k2c7 : Code := { maxStack := 1, maxLocals := 1, code := prog_15_method_8_code, exceptionTable := #[], attributes := #[] }
def k2m7 : Method := { name := "wasRead", desc := "()Z", sig := { parameters := [], returnType := some .boolean }, accessFlags := 0, code := some k2c7 }
/-- com/example/mayfly/mayfly/store/Item -/
def k2 : Class := { plain "com/example/mayfly/mayfly/store/Item" (some 0) with
  accessFlags := 49
  interfaces := #[]
  cf := some (fileOf pool2 2 #[] #[{ accessFlags := 1, nameIndex := 5, descriptorIndex := 31, attributes := #[] }, { accessFlags := 2, nameIndex := 5, descriptorIndex := 6, attributes := #[] }, { accessFlags := 1, nameIndex := 14, descriptorIndex := 34, attributes := #[] }, { accessFlags := 1, nameIndex := 18, descriptorIndex := 35, attributes := #[] }, { accessFlags := 1, nameIndex := 22, descriptorIndex := 36, attributes := #[] }, { accessFlags := 1, nameIndex := 26, descriptorIndex := 36, attributes := #[] }, { accessFlags := 1, nameIndex := 37, descriptorIndex := 11, attributes := #[] }, { accessFlags := 0, nameIndex := 39, descriptorIndex := 40, attributes := #[] }] 49 8 #[] #[{ accessFlags := 18, nameIndex := 14, descriptorIndex := 15, attributes := #[] }, { accessFlags := 18, nameIndex := 18, descriptorIndex := 19, attributes := #[] }, { accessFlags := 18, nameIndex := 22, descriptorIndex := 23, attributes := #[] }, { accessFlags := 18, nameIndex := 26, descriptorIndex := 23, attributes := #[] }, { accessFlags := 66, nameIndex := 29, descriptorIndex := 30, attributes := #[] }])
  fields := #[{ name := "value", type := (.array .byte), accessFlags := 18, slot := 0, constantValue := 0 }, { name := "flags", type := .int, accessFlags := 18, slot := 1, constantValue := 0 }, { name := "deadline", type := .long, accessFlags := 18, slot := 2, constantValue := 0 }, { name := "cas", type := .long, accessFlags := 18, slot := 3, constantValue := 0 }, { name := "read", type := .boolean, accessFlags := 66, slot := 4, constantValue := 0 }]
  methods := #[k2m0, k2m1, k2m2, k2m3, k2m4, k2m5, k2m6, k2m7]
  instanceTypes := #[(.array .byte), .int, .long, .long, .boolean]
  staticTypes := #[]
  resolved := Array.replicate 46 none
  statics := none }

def pool3 : Array CpInfo := pool [(1, u "java/lang/Cloneable"), (0, .class_ 1), (0, u "java/lang/Object"), (0, .class_ 3)] 3

/-- java/lang/Cloneable -/
def k3 : Class := { plain "java/lang/Cloneable" (some 0) with
  accessFlags := 1537
  interfaces := #[]
  cf := some (fileOf pool3 2 #[] #[] 1537 4 #[] #[])
  fields := #[]
  methods := #[]
  instanceTypes := #[]
  staticTypes := #[]
  resolved := Array.replicate 8 none
  statics := none }

def pool4 : Array CpInfo := pool [(1, u "java/io/Serializable"), (0, .class_ 1), (0, u "java/lang/Object"), (0, .class_ 3)] 3

/-- java/io/Serializable -/
def k4 : Class := { plain "java/io/Serializable" (some 0) with
  accessFlags := 1537
  interfaces := #[]
  cf := some (fileOf pool4 2 #[] #[] 1537 4 #[] #[])
  fields := #[]
  methods := #[]
  instanceTypes := #[]
  staticTypes := #[]
  resolved := Array.replicate 8 none
  statics := none }

/-- the primitive byte -/
def k5 : Class := { plain "byte" none with kind := .primitive 'B', accessFlags := 0x411 }
/-- [B -/
def k6 : Class := { plain "[B" (some 0) with kind := .array 5 .byte, interfaces := #[3, 4], accessFlags := 1041 }

/-- the primitive int -/
def k7 : Class := { plain "int" none with kind := .primitive 'I', accessFlags := 0x411 }
/-- [I -/
def k8 : Class := { plain "[I" (some 0) with kind := .array 7 .int, interfaces := #[3, 4], accessFlags := 1041 }

def heap : Heap := #[]
def classes : Array Class := #[k0, k1, k2, k3, k4, k5, k6, k7, k8]
def interned : List (Array UInt16 × Addr) := []
def slotsUsed : Nat := 0
def theMethod : MethodId := ⟨1, 1⟩
def args0 : Array Value := #[.int 5, .int 7, .int 9, .long 11, .int 3]
def aboutOver (below : List Frame) : State where
  vm := { classes := classes, interned := interned.toArray }
  heap := heap
  slotsUsed := slotsUsed
  threads := #[{ frames := .invoking theMethod args0 :: below }]
def below0 : List Frame := [.native { method := ⟨0, 0⟩, args := #[] }]
def about1 : State := aboutOver below0
def p0 : Program := .bare "" "" ""
def e0 : Env := launch0.env 0 0 0
theorem w_frames : about1.frames = Frame.invoking theMethod args0 :: below0 := rfl
set_option maxRecDepth 65536 in
theorem w_args : argsFit about1.vm theMethod args0 = true := by decide +kernel
set_option maxRecDepth 65536 in
theorem w_heap : heapFits about1 = true := by decide +kernel
set_option maxRecDepth 65536 in
theorem w_runnable : about1.curStatus? = some .runnable := by decide +kernel
set_option maxRecDepth 65536 in
theorem w_alone : about1.alone = true := by decide +kernel
set_option maxRecDepth 65536 in
theorem w_named : about1.methodNamed? x = some theMethod := by decide +kernel
set_option maxRecDepth 65536 in
theorem w_hears : about1.hears theMethod below0 = true := by decide +kernel
set_option maxRecDepth 65536 in
theorem w_ripe : about1.ripe theMethod args0 below0 = true := by decide +kernel
theorem w_running : about1.status = .running := rfl
set_option maxRecDepth 65536 in
theorem w_room : about1.hasRoom e0.platform room_1 = true :=
  launch0.hasRoom_least _ room_1 (by decide +kernel) (by decide +kernel) (by decide +kernel) (by decide +kernel) (by decide +kernel) (by decide +kernel)
theorem allAtoms_all (ts : List Jvm.Cond) (a : Array Jvm.Value) (st : Jvm.State) : (allAtoms ts).before a st = ts.all (fun c => c.before a st) := by
  induction ts with
  | nil => rfl
  | cons c t ih =>
    show (Jvm.Cond.and c (allAtoms t)).before a st = _
    rw [Jvm.Cond.before_and, ih, List.all_cons]
def words1 : List Jvm.Cond := Jvm.Cond.code x code maxLocals ret :: tables_1
/-- a 'code' word, met by the world's own term for the bytes: nothing is compared byte by byte -/
theorem code_word {y : MethodName} {bytes : ByteArray} {mx : Nat} {rt : Option FieldType} {a : Array Value} {s : State} {m : MethodId} {meth : Method} {c : Code} (h1 : s.methodNamed? y = some m) (h2 : s.vm.method? m = some meth) (h3 : meth.code = some c) (h4 : c.code = bytes)
    (h5 : (c.maxLocals == mx && c.exceptionTable.isEmpty && decide (c.maxStack ≤ mostOperands) && decide (meth.sig.returnType = rt) && !meth.locks && decide (parseMethodDescriptor y.desc = some meth.sig)) = true) : (Jvm.Cond.code y bytes mx rt).before a s = true := by
  simp only [Bool.and_eq_true, beq_iff_eq, Bool.not_eq_true', decide_eq_true_eq] at h5
  obtain ⟨⟨⟨⟨⟨g1, g2⟩, g3⟩, g4⟩, g5⟩, g6⟩ := h5
  simp [Cond.before, Cond.holds, Cond.value, h1, h2, h3, h4, g1, g2, g3, g4, g5, g6]
def isCode : Jvm.Cond → Bool
  | .code _ _ _ _ => true
  | _ => false
theorem all_split {L : List Jvm.Cond} {P : Jvm.Cond → Bool} (h1 : L.all (fun c => isCode c || P c) = true) (h2 : ∀ c ∈ L.filter isCode, P c = true) : L.all P = true := by
  refine List.all_eq_true.mpr fun c hc => ?_
  have h := List.all_eq_true.mp h1 c hc
  rcases Bool.eq_false_or_eq_true (isCode c) with hi | hi
  · exact h2 c (List.mem_filter.mpr ⟨hc, hi⟩)
  · simpa [hi] using h
set_option maxRecDepth 65536 in
theorem w_c0 : (Jvm.Cond.code x code maxLocals ret).before args0 about1 = true := code_word (m := ⟨1, 1⟩) (meth := k1m1) (c := k1c1) (by decide +kernel) rfl rfl rfl (by decide +kernel)
set_option maxRecDepth 65536 in
theorem w_c1 : (Jvm.Cond.code ({ cls := "com/example/mayfly/mayfly/store/Item", name := "<init>", desc := "([BIJ)V" } : Jvm.MethodName) prog_15_method_1_code (5 : Nat) (Option.none : Option Jvm.ClassFile.FieldType)).before args0 about1 = true := code_word (m := ⟨2, 0⟩) (meth := k2m0) (c := k2c0) (by decide +kernel) rfl rfl rfl (by decide +kernel)
set_option maxRecDepth 65536 in
theorem w_c2 : (Jvm.Cond.code ({ cls := "com/example/mayfly/mayfly/store/Item", name := "<init>", desc := "([BIJJZ)V" } : Jvm.MethodName) prog_15_method_2_code (8 : Nat) (Option.none : Option Jvm.ClassFile.FieldType)).before args0 about1 = true := code_word (m := ⟨2, 1⟩) (meth := k2m1) (c := k2c1) (by decide +kernel) rfl rfl rfl (by decide +kernel)
set_option maxRecDepth 65536 in
theorem w_c3 : (Jvm.Cond.code ({ cls := "java/lang/Object", name := "<init>", desc := "()V" } : Jvm.MethodName) object_method_1_code (1 : Nat) (Option.none : Option Jvm.ClassFile.FieldType)).before args0 about1 = true := code_word (m := ⟨0, 0⟩) (meth := k0m0) (c := k0c0) (by decide +kernel) rfl rfl rfl (by decide +kernel)
set_option maxRecDepth 65536 in
theorem w_c4 : (Jvm.Cond.code ({ cls := "com/example/mayfly/mayfly/store/Item", name := "wasRead", desc := "()Z" } : Jvm.MethodName) prog_15_method_8_code (1 : Nat) (Option.some Jvm.ClassFile.FieldType.boolean)).before args0 about1 = true := code_word (m := ⟨2, 7⟩) (meth := k2m7) (c := k2c7) (by decide +kernel) rfl rfl rfl (by decide +kernel)
set_option maxRecDepth 65536 in
theorem w_c5 : (Jvm.Cond.code ({ cls := "com/example/mayfly/mayfly/store/Item", name := "markRead", desc := "()V" } : Jvm.MethodName) prog_15_method_7_code (1 : Nat) (Option.none : Option Jvm.ClassFile.FieldType)).before args0 about1 = true := code_word (m := ⟨2, 6⟩) (meth := k2m6) (c := k2c6) (by decide +kernel) rfl rfl rfl (by decide +kernel)
set_option maxRecDepth 65536 in
theorem w_c6 : (Jvm.Cond.code ({ cls := "com/example/mayfly/mayfly/store/Item", name := "value", desc := "()[B" } : Jvm.MethodName) prog_15_method_3_code (1 : Nat) (Option.some (Jvm.ClassFile.FieldType.array Jvm.ClassFile.FieldType.byte))).before args0 about1 = true := code_word (m := ⟨2, 2⟩) (meth := k2m2) (c := k2c2) (by decide +kernel) rfl rfl rfl (by decide +kernel)
set_option maxRecDepth 65536 in
theorem w_c7 : (Jvm.Cond.code ({ cls := "com/example/mayfly/mayfly/store/Item", name := "flags", desc := "()I" } : Jvm.MethodName) prog_15_method_4_code (1 : Nat) (Option.some Jvm.ClassFile.FieldType.int)).before args0 about1 = true := code_word (m := ⟨2, 3⟩) (meth := k2m3) (c := k2c3) (by decide +kernel) rfl rfl rfl (by decide +kernel)
set_option maxRecDepth 65536 in
theorem w_c8 : (Jvm.Cond.code ({ cls := "com/example/mayfly/mayfly/store/Item", name := "deadline", desc := "()J" } : Jvm.MethodName) prog_15_method_5_code (1 : Nat) (Option.some Jvm.ClassFile.FieldType.long)).before args0 about1 = true := code_word (m := ⟨2, 4⟩) (meth := k2m4) (c := k2c4) (by decide +kernel) rfl rfl rfl (by decide +kernel)
set_option maxRecDepth 65536 in
theorem w_c9 : (Jvm.Cond.code ({ cls := "com/example/mayfly/mayfly/store/Item", name := "cas", desc := "()J" } : Jvm.MethodName) prog_15_method_6_code (1 : Nat) (Option.some Jvm.ClassFile.FieldType.long)).before args0 about1 = true := code_word (m := ⟨2, 5⟩) (meth := k2m5) (c := k2c5) (by decide +kernel) rfl rfl rfl (by decide +kernel)
def codes1 : List Jvm.Cond := [Jvm.Cond.code x code maxLocals ret, Jvm.Cond.code ({ cls := "com/example/mayfly/mayfly/store/Item", name := "<init>", desc := "([BIJ)V" } : Jvm.MethodName) prog_15_method_1_code (5 : Nat) (Option.none : Option Jvm.ClassFile.FieldType), Jvm.Cond.code ({ cls := "com/example/mayfly/mayfly/store/Item", name := "<init>", desc := "([BIJJZ)V" } : Jvm.MethodName) prog_15_method_2_code (8 : Nat) (Option.none : Option Jvm.ClassFile.FieldType), Jvm.Cond.code ({ cls := "java/lang/Object", name := "<init>", desc := "()V" } : Jvm.MethodName) object_method_1_code (1 : Nat) (Option.none : Option Jvm.ClassFile.FieldType), Jvm.Cond.code ({ cls := "com/example/mayfly/mayfly/store/Item", name := "wasRead", desc := "()Z" } : Jvm.MethodName) prog_15_method_8_code (1 : Nat) (Option.some Jvm.ClassFile.FieldType.boolean), Jvm.Cond.code ({ cls := "com/example/mayfly/mayfly/store/Item", name := "markRead", desc := "()V" } : Jvm.MethodName) prog_15_method_7_code (1 : Nat) (Option.none : Option Jvm.ClassFile.FieldType), Jvm.Cond.code ({ cls := "com/example/mayfly/mayfly/store/Item", name := "value", desc := "()[B" } : Jvm.MethodName) prog_15_method_3_code (1 : Nat) (Option.some (Jvm.ClassFile.FieldType.array Jvm.ClassFile.FieldType.byte)), Jvm.Cond.code ({ cls := "com/example/mayfly/mayfly/store/Item", name := "flags", desc := "()I" } : Jvm.MethodName) prog_15_method_4_code (1 : Nat) (Option.some Jvm.ClassFile.FieldType.int), Jvm.Cond.code ({ cls := "com/example/mayfly/mayfly/store/Item", name := "deadline", desc := "()J" } : Jvm.MethodName) prog_15_method_5_code (1 : Nat) (Option.some Jvm.ClassFile.FieldType.long), Jvm.Cond.code ({ cls := "com/example/mayfly/mayfly/store/Item", name := "cas", desc := "()J" } : Jvm.MethodName) prog_15_method_6_code (1 : Nat) (Option.some Jvm.ClassFile.FieldType.long)]
set_option maxRecDepth 65536 in
theorem codes_eq : words1.filter isCode = codes1 := rfl
theorem w_codes : ∀ c ∈ words1.filter isCode, c.before args0 about1 = true := by
  rw [codes_eq]
  intro c hc
  simp only [codes1, List.mem_cons, List.not_mem_nil, or_false] at hc
  rcases hc with rfl | rfl | rfl | rfl | rfl | rfl | rfl | rfl | rfl | rfl
  · exact w_c0
  · exact w_c1
  · exact w_c2
  · exact w_c3
  · exact w_c4
  · exact w_c5
  · exact w_c6
  · exact w_c7
  · exact w_c8
  · exact w_c9
set_option maxRecDepth 65536 in
theorem w_t1 : (words1.take 24).all (fun c => isCode c || c.before args0 about1) = true := by decide +kernel
set_option maxRecDepth 65536 in
theorem w_t2 : ((words1.drop 24).take 24).all (fun c => isCode c || c.before args0 about1) = true := by decide +kernel
set_option maxRecDepth 65536 in
theorem w_t3 : ((words1.drop 24).drop 24).all (fun c => isCode c || c.before args0 about1) = true := by decide +kernel
theorem w_tables : (allAtoms (Jvm.Cond.code x code maxLocals ret :: tables_1)).before args0 about1 = true := by
  rw [allAtoms_all]
  show words1.all (fun c => c.before args0 about1) = true
  refine all_split ?_ w_codes
  rw [← List.take_append_drop 24 words1, List.all_append, w_t1, ← List.take_append_drop 24 (words1.drop 24), List.all_append, w_t2, w_t3]
  rfl
set_option maxRecDepth 65536 in
theorem w_case : (Jvm.Cond.and given_1 narrow_1).before args0 about1 = true := by decide +kernel
theorem w_applies : (headSpec (Jvm.Cond.code x code maxLocals ret :: tables_1) room_1).applies x e0.platform about1 = true :=
  (Spec.applies_iff w_frames).mpr ⟨w_running, w_runnable, w_alone, w_named, w_hears, w_ripe, w_room, w_tables⟩
theorem atStart : AtStart classFile x code maxLocals ret World_1 tables_1 room_1 Calls_1 rest_1 Pre_1 launch0 p0 e0 about1 theMethod args0 below0 :=
  ⟨lists_1, trivial, launch0.admits_env _ _ _, launch0.least_env, fairChoices_fair.cas, fairChoices_fair.clock, w_frames, w_args, w_heap, w_applies, trivial, trivial, w_case⟩
end start1
theorem witness_1 : WitnessClaimed_1 := ⟨start1.p0, start1.e0, start1.about1, start1.theMethod, start1.args0, start1.below0, start1.atStart⟩
end Jvm.Pilot.@@N@@
