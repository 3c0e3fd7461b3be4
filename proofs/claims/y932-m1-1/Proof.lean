import JvmDerived
import JvmDerived.Pilot.@@N@@Statement
import JvmDerived.Pilot.@@N@@Code
set_option linter.unusedVariables false
set_option linter.unusedSimpArgs false
@@BLOCK:NumsL.lean.txt@@
namespace Jvm.Pilot.@@N@@
open Jvm Jvm.ClassFile Sem Op Lib Jvm.Free Jvm.Stand Jvm.LawKit Jvm.RoadKit Bundle Jvm.Pilot.@@N@@.Jvm.D
/-! 1. OWN: a walk in continuation style: 'own_Goes': from this frame the run comes back with an outcome of which Q holds -/
def own_Goes (p : Program) (e : Env) (below : List Frame) (T : State) (F : JFrame) (Q : Outcome → State → Prop) : Prop := ∃ s₂ o, Steps p.tables e below (T.setTop F) s₂ ∧ s₂.status = .running ∧ Ended s₂ below o ∧ Q o s₂
def own_Ret (s : State) (K : Option Value → Heap → List Loc → Prop) (rc rs : Nat) (o : Outcome) (U' : State) : Prop := ∃ v L, o = .returned v ∧ K v U'.heap L ∧ FrameEnd s o U' L rc rs
def own_upd (f : Nat → Value) (k : Nat) (v : Value) : Nat → Value := fun i => if i = k then v else f i
/-- an array of n places at a; place j holds f j -/
def own_Arr (Z : State) (h : Heap) (a : Addr) (ty : FieldType) (n : Nat) (f : Nat → Value) : Prop := ∃ c : Cell, Arr Z h a c ty ∧ c.slots.size = n ∧ n < 2 ^ 31 ∧ ∀ j, j < n → c.slots[j]? = some (f j)
section Own
variable {p : Program} {l : Launch} {e : Env} {R : Room} {s : State} {m : MethodId} {args : Array Value} {below : List Frame} {meth : Method} {c : Code} {T : State} {locs : List Loc} {cells slots : Nat} {Z : State} {a0 : Array Value} {h h' : Heap} {Q : Outcome → State → Prop} {Ls Ls' : Array Slot} {st : List Value} {pc pc' : Nat}
theorem own_step {T' : State} {F F' : JFrame} (k : ∀ t, Steps p.tables e below (T'.setTop F') t → Steps p.tables e below (T.setTop F) t) (q : own_Goes p e below T' F' Q) : own_Goes p e below T F Q := by
  obtain ⟨s2, o, h1, h2⟩ := q
  exact ⟨s2, o, k _ h1, h2⟩
theorem own_body {y : MethodName} {bytes : ByteArray} {maxL : Nat} {rt : Option FieldType} {ws : List Jvm.Cond} {rm : Room} {as : Array Value} {h0 : Heap} {K : Option Value → Heap → List Loc → Prop} (hpl : plainFor y = true)
    (body : ∀ (p : Program) (e : Env) (s : State) (m : MethodId) (below : List Frame) (meth : Method) (c : Code) (s₁ : State), p.tables.exec = Jvm.exec → c.code = bytes → c.maxLocals = maxL → s.vm.findClass y.cls = some m.cls → meth.name = y.name → meth.sig.returnType = rt → meth.locks = false → Z.Warmed39 s.vm →
      Stand p l e rm s m as below meth c s₁ [] 0 0 → s₁.heap = h0 → own_Goes p e below s₁ (entryFrame m as maxL) (own_Ret s K rm.cells rm.slots)) :
    MetFree l y (head1 (Jvm.Cond.code y bytes maxL rt :: ws) rm) (fun a U => a = as ∧ Z.Warmed39 U.vm ∧ U.heap = h0) (fun _ _ _ _ _ => True) (fun _ U o U' => ∃ v L, o = .returned v ∧ K v U'.heap L ∧ FrameEnd U o U' L rm.cells rm.slots) := by
  refine MetFree.of_bodySF hpl hisR ?_
  intro p e s m args below meth c s₁ Bd hml0 hP hK
  obtain ⟨rfl, hZ, hh⟩ := hP
  exact body p e s m below meth c s₁ Bd.exec Bd.bytes hml0 (findClass_of_methodNamed Bd.named) (name_of_methodNamed Bd.named Bd.method).1 Bd.returns Bd.notSynchronized hZ (Stand.of_body Bd) (by rw [← hh, Bd.state]; rfl)
theorem own_iload (X : Stand p l e R s m args below meth c T locs cells slots) (hx : p.tables.exec = Jvm.exec) {k : Nat} {v : Int32} (hp : pc + 2 = pc') (hd : decode c.code pc = .ok (.iload k, 2)) (hl : Ls[k]? = some (.val (.int v))) (k : own_Goes p e below T (mkF m pc' Ls (.int v :: st)) Q) : own_Goes p e below T (mkF m pc Ls st) Q := by
  subst hp; exact own_step (fun _ q => XS.iload X.here hx rfl hd hl q) k
theorem own_iloadN (X : Stand p l e R s m args below meth c T locs cells slots) (hx : p.tables.exec = Jvm.exec) {k : Fin 4} {v : Int32} (hp : pc + 1 = pc') (hd : decode c.code pc = .ok (.iload_n k, 1)) (hl : Ls[k.val]? = some (.val (.int v))) (k : own_Goes p e below T (mkF m pc' Ls (.int v :: st)) Q) : own_Goes p e below T (mkF m pc Ls st) Q := by
  subst hp; exact own_step (fun _ q => XS.iloadN X.here hx rfl hd hl q) k
theorem own_istore (X : Stand p l e R s m args below meth c T locs cells slots) (hx : p.tables.exec = Jvm.exec) {k : Nat} {v : Int32} (hp : pc + 2 = pc') (hd : decode c.code pc = .ok (.istore k, 2)) (hl : storeLocals Ls k (.int v) = some Ls') (k : own_Goes p e below T (mkF m pc' Ls' st) Q) : own_Goes p e below T (mkF m pc Ls (.int v :: st)) Q := by
  subst hp; exact own_step (fun _ q => XS.istore X.here hx rfl hd rfl hl q) k
theorem own_istoreN (X : Stand p l e R s m args below meth c T locs cells slots) (hx : p.tables.exec = Jvm.exec) {k : Fin 4} {v : Int32} (hp : pc + 1 = pc') (hd : decode c.code pc = .ok (.istore_n k, 1)) (hl : storeLocals Ls k.val (.int v) = some Ls') (k : own_Goes p e below T (mkF m pc' Ls' st) Q) : own_Goes p e below T (mkF m pc Ls (.int v :: st)) Q := by
  subst hp; exact own_step (fun _ q => XS.istoreN X.here hx rfl hd rfl hl q) k
theorem own_lload (X : Stand p l e R s m args below meth c T locs cells slots) (hx : p.tables.exec = Jvm.exec) {k : Nat} {v : Int64} (hp : pc + 2 = pc') (hd : decode c.code pc = .ok (.lload k, 2)) (hl : Ls[k]? = some (.val (.long v))) (k : own_Goes p e below T (mkF m pc' Ls (.long v :: st)) Q) : own_Goes p e below T (mkF m pc Ls st) Q := by
  subst hp; exact own_step (fun _ q => XT.lload X.here hx rfl hd hl q) k
theorem own_lloadN (X : Stand p l e R s m args below meth c T locs cells slots) (hx : p.tables.exec = Jvm.exec) {k : Fin 4} {v : Int64} (hp : pc + 1 = pc') (hd : decode c.code pc = .ok (.lload_n k, 1)) (hl : Ls[k.val]? = some (.val (.long v))) (k : own_Goes p e below T (mkF m pc' Ls (.long v :: st)) Q) : own_Goes p e below T (mkF m pc Ls st) Q := by
  subst hp; exact own_step (fun _ q => XT.lloadN X.here hx rfl hd hl q) k
theorem own_lstore (X : Stand p l e R s m args below meth c T locs cells slots) (hx : p.tables.exec = Jvm.exec) {k : Nat} {v : Int64} (hp : pc + 2 = pc') (hd : decode c.code pc = .ok (.lstore k, 2)) (hl : storeLocals Ls k (.long v) = some Ls') (k : own_Goes p e below T (mkF m pc' Ls' st) Q) : own_Goes p e below T (mkF m pc Ls (.long v :: st)) Q := by
  subst hp; exact own_step (fun _ q => XT.lstore X.here hx rfl hd rfl hl q) k
theorem own_lstoreN (X : Stand p l e R s m args below meth c T locs cells slots) (hx : p.tables.exec = Jvm.exec) {k : Fin 4} {v : Int64} (hp : pc + 1 = pc') (hd : decode c.code pc = .ok (.lstore_n k, 1)) (hl : storeLocals Ls k.val (.long v) = some Ls') (k : own_Goes p e below T (mkF m pc' Ls' st) Q) : own_Goes p e below T (mkF m pc Ls (.long v :: st)) Q := by
  subst hp; exact own_step (fun _ q => XT.lstoreN X.here hx rfl hd rfl hl q) k
theorem own_aload (X : Stand p l e R s m args below meth c T locs cells slots) (hx : p.tables.exec = Jvm.exec) {k : Nat} {v : Value} (hp : pc + 2 = pc') (hd : decode c.code pc = .ok (.aload k, 2)) (hl : Ls[k]? = some (.val v)) (hv : v.isRef = true) (k : own_Goes p e below T (mkF m pc' Ls (v :: st)) Q) : own_Goes p e below T (mkF m pc Ls st) Q := by
  subst hp; exact own_step (fun _ q => XS.aload X.here hx rfl hd hl hv q) k
theorem own_aloadN (X : Stand p l e R s m args below meth c T locs cells slots) (hx : p.tables.exec = Jvm.exec) {k : Fin 4} {v : Value} (hp : pc + 1 = pc') (hd : decode c.code pc = .ok (.aload_n k, 1)) (hl : Ls[k.val]? = some (.val v)) (hv : v.isRef = true) (k : own_Goes p e below T (mkF m pc' Ls (v :: st)) Q) : own_Goes p e below T (mkF m pc Ls st) Q := by
  subst hp; exact own_step (fun _ q => XS.aloadN X.here hx rfl hd hl hv q) k
theorem own_astore (X : Stand p l e R s m args below meth c T locs cells slots) (hx : p.tables.exec = Jvm.exec) {k : Nat} {v : Value} (hp : pc + 2 = pc') (hd : decode c.code pc = .ok (.astore k, 2)) (hv : v.isRef = true) (hl : storeLocals Ls k v = some Ls') (k : own_Goes p e below T (mkF m pc' Ls' st) Q) : own_Goes p e below T (mkF m pc Ls (v :: st)) Q := by
  subst hp; exact own_step (fun _ q => XS.astore X.here hx rfl hd rfl hv hl q) k
theorem own_astoreN (X : Stand p l e R s m args below meth c T locs cells slots) (hx : p.tables.exec = Jvm.exec) {k : Fin 4} {v : Value} (hp : pc + 1 = pc') (hd : decode c.code pc = .ok (.astore_n k, 1)) (hv : v.isRef = true) (hl : storeLocals Ls k.val v = some Ls') (k : own_Goes p e below T (mkF m pc' Ls' st) Q) : own_Goes p e below T (mkF m pc Ls (v :: st)) Q := by
  subst hp; exact own_step (fun _ q => XS.astoreN X.here hx rfl hd rfl hv hl q) k
theorem own_iconst (X : Stand p l e R s m args below meth c T locs cells slots) (hx : p.tables.exec = Jvm.exec) {i : Int} {v : Int32} (hp : pc + 1 = pc') (hd : decode c.code pc = .ok (.iconst i, 1)) (hv : Int32.ofInt i = v) (k : own_Goes p e below T (mkF m pc' Ls (.int v :: st)) Q) : own_Goes p e below T (mkF m pc Ls st) Q := by
  subst hp; subst hv; exact own_step (fun _ q => XS.iconst X.here hx rfl hd  q) k
theorem own_bipush (X : Stand p l e R s m args below meth c T locs cells slots) (hx : p.tables.exec = Jvm.exec) {i : Int} {v : Int32} (hp : pc + 2 = pc') (hd : decode c.code pc = .ok (.bipush i, 2)) (hv : (Int8.ofInt i).toInt32 = v) (k : own_Goes p e below T (mkF m pc' Ls (.int v :: st)) Q) : own_Goes p e below T (mkF m pc Ls st) Q := by
  subst hp; subst hv; exact own_step (fun _ q => XS.bipush X.here hx rfl hd  q) k
theorem own_sipush (X : Stand p l e R s m args below meth c T locs cells slots) (hx : p.tables.exec = Jvm.exec) {i : Int} {v : Int32} (hp : pc + 3 = pc') (hd : decode c.code pc = .ok (.sipush i, 3)) (hv : (Int16.ofInt i).toInt32 = v) (k : own_Goes p e below T (mkF m pc' Ls (.int v :: st)) Q) : own_Goes p e below T (mkF m pc Ls st) Q := by
  subst hp; subst hv; exact own_step (fun _ q => XS.sipush X.here hx rfl hd  q) k
theorem own_lconst (X : Stand p l e R s m args below meth c T locs cells slots) (hx : p.tables.exec = Jvm.exec) {i : Fin 2} {v : Int64} (hp : pc + 1 = pc') (hd : decode c.code pc = .ok (.lconst i, 1)) (hv : Int64.ofNat i = v) (k : own_Goes p e below T (mkF m pc' Ls (.long v :: st)) Q) : own_Goes p e below T (mkF m pc Ls st) Q := by
  subst hp; subst hv; exact own_step (fun _ q => XT.lconst X.here hx rfl hd  q) k
theorem own_anull (X : Stand p l e R s m args below meth c T locs cells slots) (hx : p.tables.exec = Jvm.exec)  (hp : pc + 1 = pc') (hd : decode c.code pc = .ok (.aconst_null, 1))  (k : own_Goes p e below T (mkF m pc' Ls (.null :: st)) Q) : own_Goes p e below T (mkF m pc Ls st) Q := by
  subst hp; exact own_step (fun _ q => XS.aconstNull X.here hx rfl hd  q) k
theorem own_iadd (X : Stand p l e R s m args below meth c T locs cells slots) (hx : p.tables.exec = Jvm.exec) {x y v : Int32} (hp : pc + 1 = pc') (hd : decode c.code pc = .ok (.iadd, 1)) (hv : x + y = v) (k : own_Goes p e below T (mkF m pc' Ls (.int v :: st)) Q) : own_Goes p e below T (mkF m pc Ls (.int y :: .int x :: st)) Q := by
  subst hp; subst hv; exact own_step (fun _ q => XS.iadd X.here hx rfl hd rfl q) k
theorem own_isub (X : Stand p l e R s m args below meth c T locs cells slots) (hx : p.tables.exec = Jvm.exec) {x y v : Int32} (hp : pc + 1 = pc') (hd : decode c.code pc = .ok (.isub, 1)) (hv : x - y = v) (k : own_Goes p e below T (mkF m pc' Ls (.int v :: st)) Q) : own_Goes p e below T (mkF m pc Ls (.int y :: .int x :: st)) Q := by
  subst hp; subst hv; exact own_step (fun _ q => XS.isub X.here hx rfl hd rfl q) k
theorem own_imul (X : Stand p l e R s m args below meth c T locs cells slots) (hx : p.tables.exec = Jvm.exec) {x y v : Int32} (hp : pc + 1 = pc') (hd : decode c.code pc = .ok (.imul, 1)) (hv : x * y = v) (k : own_Goes p e below T (mkF m pc' Ls (.int v :: st)) Q) : own_Goes p e below T (mkF m pc Ls (.int y :: .int x :: st)) Q := by
  subst hp; subst hv; exact own_step (fun _ q => XS.imul X.here hx rfl hd rfl q) k
theorem own_iand (X : Stand p l e R s m args below meth c T locs cells slots) (hx : p.tables.exec = Jvm.exec) {x y v : Int32} (hp : pc + 1 = pc') (hd : decode c.code pc = .ok (.iand, 1)) (hv : x &&& y = v) (k : own_Goes p e below T (mkF m pc' Ls (.int v :: st)) Q) : own_Goes p e below T (mkF m pc Ls (.int y :: .int x :: st)) Q := by
  subst hp; subst hv; exact own_step (fun _ q => XS.iand X.here hx rfl hd rfl q) k
theorem own_ior (X : Stand p l e R s m args below meth c T locs cells slots) (hx : p.tables.exec = Jvm.exec) {x y v : Int32} (hp : pc + 1 = pc') (hd : decode c.code pc = .ok (.ior, 1)) (hv : x ||| y = v) (k : own_Goes p e below T (mkF m pc' Ls (.int v :: st)) Q) : own_Goes p e below T (mkF m pc Ls (.int y :: .int x :: st)) Q := by
  subst hp; subst hv; exact own_step (fun _ q => XT.ior X.here hx rfl hd rfl q) k
theorem own_ixor (X : Stand p l e R s m args below meth c T locs cells slots) (hx : p.tables.exec = Jvm.exec) {x y v : Int32} (hp : pc + 1 = pc') (hd : decode c.code pc = .ok (.ixor, 1)) (hv : x ^^^ y = v) (k : own_Goes p e below T (mkF m pc' Ls (.int v :: st)) Q) : own_Goes p e below T (mkF m pc Ls (.int y :: .int x :: st)) Q := by
  subst hp; subst hv; exact own_step (fun _ q => XT.ixor X.here hx rfl hd rfl q) k
theorem own_ishl (X : Stand p l e R s m args below meth c T locs cells slots) (hx : p.tables.exec = Jvm.exec) {x y v : Int32} (hp : pc + 1 = pc') (hd : decode c.code pc = .ok (.ishl, 1)) (hv : x <<< (y &&& 31) = v) (k : own_Goes p e below T (mkF m pc' Ls (.int v :: st)) Q) : own_Goes p e below T (mkF m pc Ls (.int y :: .int x :: st)) Q := by
  subst hp; subst hv; exact own_step (fun _ q => XT.ishl X.here hx rfl hd rfl q) k
theorem own_ishr (X : Stand p l e R s m args below meth c T locs cells slots) (hx : p.tables.exec = Jvm.exec) {x y v : Int32} (hp : pc + 1 = pc') (hd : decode c.code pc = .ok (.ishr, 1)) (hv : x >>> (y &&& 31) = v) (k : own_Goes p e below T (mkF m pc' Ls (.int v :: st)) Q) : own_Goes p e below T (mkF m pc Ls (.int y :: .int x :: st)) Q := by
  subst hp; subst hv; exact own_step (fun _ q => XT.ishr X.here hx rfl hd rfl q) k
theorem own_iushr (X : Stand p l e R s m args below meth c T locs cells slots) (hx : p.tables.exec = Jvm.exec) {x y v : Int32} (hp : pc + 1 = pc') (hd : decode c.code pc = .ok (.iushr, 1)) (hv : XT.ushr x y = v) (k : own_Goes p e below T (mkF m pc' Ls (.int v :: st)) Q) : own_Goes p e below T (mkF m pc Ls (.int y :: .int x :: st)) Q := by
  subst hp; subst hv; exact own_step (fun _ q => XT.iushr X.here hx rfl hd rfl q) k
theorem own_idiv (X : Stand p l e R s m args below meth c T locs cells slots) (hx : p.tables.exec = Jvm.exec) {x y v : Int32} (hp : pc + 1 = pc') (hd : decode c.code pc = .ok (.idiv, 1)) (hy : y ≠ 0) (hv : x / y = v) (k : own_Goes p e below T (mkF m pc' Ls (.int v :: st)) Q) : own_Goes p e below T (mkF m pc Ls (.int y :: .int x :: st)) Q := by
  subst hp; subst hv; exact own_step (fun _ q => XS.idiv X.here hx rfl hd rfl hy q) k
theorem own_irem (X : Stand p l e R s m args below meth c T locs cells slots) (hx : p.tables.exec = Jvm.exec) {x y v : Int32} (hp : pc + 1 = pc') (hd : decode c.code pc = .ok (.irem, 1)) (hy : y ≠ 0) (hv : x % y = v) (k : own_Goes p e below T (mkF m pc' Ls (.int v :: st)) Q) : own_Goes p e below T (mkF m pc Ls (.int y :: .int x :: st)) Q := by
  subst hp; subst hv; exact own_step (fun _ q => iremM X hx rfl hd rfl hy q) k
theorem own_ladd (X : Stand p l e R s m args below meth c T locs cells slots) (hx : p.tables.exec = Jvm.exec) {x y v : Int64} (hp : pc + 1 = pc') (hd : decode c.code pc = .ok (.ladd, 1)) (hv : x + y = v) (k : own_Goes p e below T (mkF m pc' Ls (.long v :: st)) Q) : own_Goes p e below T (mkF m pc Ls (.long y :: .long x :: st)) Q := by
  subst hp; subst hv; exact own_step (fun _ q => XT.ladd X.here hx rfl hd rfl q) k
theorem own_lsub (X : Stand p l e R s m args below meth c T locs cells slots) (hx : p.tables.exec = Jvm.exec) {x y v : Int64} (hp : pc + 1 = pc') (hd : decode c.code pc = .ok (.lsub, 1)) (hv : x - y = v) (k : own_Goes p e below T (mkF m pc' Ls (.long v :: st)) Q) : own_Goes p e below T (mkF m pc Ls (.long y :: .long x :: st)) Q := by
  subst hp; subst hv; exact own_step (fun _ q => XT.lsub X.here hx rfl hd rfl q) k
theorem own_lmul (X : Stand p l e R s m args below meth c T locs cells slots) (hx : p.tables.exec = Jvm.exec) {x y v : Int64} (hp : pc + 1 = pc') (hd : decode c.code pc = .ok (.lmul, 1)) (hv : x * y = v) (k : own_Goes p e below T (mkF m pc' Ls (.long v :: st)) Q) : own_Goes p e below T (mkF m pc Ls (.long y :: .long x :: st)) Q := by
  subst hp; subst hv; exact own_step (fun _ q => XT.lmul X.here hx rfl hd rfl q) k
theorem own_land (X : Stand p l e R s m args below meth c T locs cells slots) (hx : p.tables.exec = Jvm.exec) {x y v : Int64} (hp : pc + 1 = pc') (hd : decode c.code pc = .ok (.land, 1)) (hv : x &&& y = v) (k : own_Goes p e below T (mkF m pc' Ls (.long v :: st)) Q) : own_Goes p e below T (mkF m pc Ls (.long y :: .long x :: st)) Q := by
  subst hp; subst hv; exact own_step (fun _ q => XT.land X.here hx rfl hd rfl q) k
theorem own_lor (X : Stand p l e R s m args below meth c T locs cells slots) (hx : p.tables.exec = Jvm.exec) {x y v : Int64} (hp : pc + 1 = pc') (hd : decode c.code pc = .ok (.lor, 1)) (hv : x ||| y = v) (k : own_Goes p e below T (mkF m pc' Ls (.long v :: st)) Q) : own_Goes p e below T (mkF m pc Ls (.long y :: .long x :: st)) Q := by
  subst hp; subst hv; exact own_step (fun _ q => XT.lor X.here hx rfl hd rfl q) k
theorem own_lxor (X : Stand p l e R s m args below meth c T locs cells slots) (hx : p.tables.exec = Jvm.exec) {x y v : Int64} (hp : pc + 1 = pc') (hd : decode c.code pc = .ok (.lxor, 1)) (hv : x ^^^ y = v) (k : own_Goes p e below T (mkF m pc' Ls (.long v :: st)) Q) : own_Goes p e below T (mkF m pc Ls (.long y :: .long x :: st)) Q := by
  subst hp; subst hv; exact own_step (fun _ q => XT.lxor X.here hx rfl hd rfl q) k
theorem own_ldiv (X : Stand p l e R s m args below meth c T locs cells slots) (hx : p.tables.exec = Jvm.exec) {x y v : Int64} (hp : pc + 1 = pc') (hd : decode c.code pc = .ok (.ldiv, 1)) (hy : y ≠ 0) (hv : x / y = v) (k : own_Goes p e below T (mkF m pc' Ls (.long v :: st)) Q) : own_Goes p e below T (mkF m pc Ls (.long y :: .long x :: st)) Q := by
  subst hp; subst hv; exact own_step (fun _ q => XT.ldiv X.here hx rfl hd rfl hy q) k
theorem own_ineg (X : Stand p l e R s m args below meth c T locs cells slots) (hx : p.tables.exec = Jvm.exec) {x v : Int32} (hp : pc + 1 = pc') (hd : decode c.code pc = .ok (.ineg, 1)) (hv : -x = v) (k : own_Goes p e below T (mkF m pc' Ls (.int v :: st)) Q) : own_Goes p e below T (mkF m pc Ls (.int x :: st)) Q := by
  subst hp; subst hv; exact own_step (fun _ q => XS.ineg X.here hx rfl hd rfl q) k
theorem own_lneg (X : Stand p l e R s m args below meth c T locs cells slots) (hx : p.tables.exec = Jvm.exec) {x v : Int64} (hp : pc + 1 = pc') (hd : decode c.code pc = .ok (.lneg, 1)) (hv : -x = v) (k : own_Goes p e below T (mkF m pc' Ls (.long v :: st)) Q) : own_Goes p e below T (mkF m pc Ls (.long x :: st)) Q := by
  subst hp; subst hv; exact own_step (fun _ q => XT.lneg X.here hx rfl hd rfl q) k
theorem own_i2l (X : Stand p l e R s m args below meth c T locs cells slots) (hx : p.tables.exec = Jvm.exec) {x : Int32} {v : Int64} (hp : pc + 1 = pc') (hd : decode c.code pc = .ok (.i2l, 1)) (hv : x.toInt64 = v) (k : own_Goes p e below T (mkF m pc' Ls (.long v :: st)) Q) : own_Goes p e below T (mkF m pc Ls (.int x :: st)) Q := by
  subst hp; subst hv; exact own_step (fun _ q => XT.i2l X.here hx rfl hd rfl q) k
theorem own_l2i (X : Stand p l e R s m args below meth c T locs cells slots) (hx : p.tables.exec = Jvm.exec) {x : Int64} {v : Int32} (hp : pc + 1 = pc') (hd : decode c.code pc = .ok (.l2i, 1)) (hv : x.toInt32 = v) (k : own_Goes p e below T (mkF m pc' Ls (.int v :: st)) Q) : own_Goes p e below T (mkF m pc Ls (.long x :: st)) Q := by
  subst hp; subst hv; exact own_step (fun _ q => XT.l2i X.here hx rfl hd rfl q) k
theorem own_i2b (X : Stand p l e R s m args below meth c T locs cells slots) (hx : p.tables.exec = Jvm.exec) {x v : Int32} (hp : pc + 1 = pc') (hd : decode c.code pc = .ok (.i2b, 1)) (hv : x.toInt8.toInt32 = v) (k : own_Goes p e below T (mkF m pc' Ls (.int v :: st)) Q) : own_Goes p e below T (mkF m pc Ls (.int x :: st)) Q := by
  subst hp; subst hv; exact own_step (fun _ q => XT.i2b X.here hx rfl hd rfl q) k
theorem own_i2c (X : Stand p l e R s m args below meth c T locs cells slots) (hx : p.tables.exec = Jvm.exec) {x v : Int32} (hp : pc + 1 = pc') (hd : decode c.code pc = .ok (.i2c, 1)) (hv : x.toUInt32.toUInt16.toUInt32.toInt32 = v) (k : own_Goes p e below T (mkF m pc' Ls (.int v :: st)) Q) : own_Goes p e below T (mkF m pc Ls (.int x :: st)) Q := by
  subst hp; subst hv; exact own_step (fun _ q => XT.i2c X.here hx rfl hd rfl q) k
theorem own_i2s (X : Stand p l e R s m args below meth c T locs cells slots) (hx : p.tables.exec = Jvm.exec) {x v : Int32} (hp : pc + 1 = pc') (hd : decode c.code pc = .ok (.i2s, 1)) (hv : x.toInt16.toInt32 = v) (k : own_Goes p e below T (mkF m pc' Ls (.int v :: st)) Q) : own_Goes p e below T (mkF m pc Ls (.int x :: st)) Q := by
  subst hp; subst hv; exact own_step (fun _ q => XT.i2s X.here hx rfl hd rfl q) k
theorem own_lcmp (X : Stand p l e R s m args below meth c T locs cells slots) (hx : p.tables.exec = Jvm.exec) {x y : Int64} (hp : pc + 1 = pc') (hd : decode c.code pc = .ok (.lcmp, 1))  (k : own_Goes p e below T (mkF m pc' Ls (.int (XT.cmpL x y) :: st)) Q) : own_Goes p e below T (mkF m pc Ls (.long y :: .long x :: st)) Q := by
  subst hp; exact own_step (fun _ q => XT.lcmp X.here hx rfl hd rfl q) k
theorem own_iinc (X : Stand p l e R s m args below meth c T locs cells slots) (hx : p.tables.exec = Jvm.exec) {n : Nat} {i : Int} {x v : Int32} (hp : pc + 3 = pc') (hd : decode c.code pc = .ok (.iinc n i, 3)) (hl : Ls[n]? = some (.val (.int x))) (hv : x + Int32.ofInt i = v) (hl' : storeLocals Ls n (.int v) = some Ls') (k : own_Goes p e below T (mkF m pc' Ls' st) Q) : own_Goes p e below T (mkF m pc Ls st) Q := by
  subst hp; subst hv; exact own_step (fun _ q => XS.iinc X.here hx rfl hd hl hl' q) k
theorem own_dup (X : Stand p l e R s m args below meth c T locs cells slots) (hx : p.tables.exec = Jvm.exec) {x : Value} (hp : pc + 1 = pc') (hd : decode c.code pc = .ok (.dup, 1)) (hc : x.category = 1) (k : own_Goes p e below T (mkF m pc' Ls (x :: x :: st)) Q) : own_Goes p e below T (mkF m pc Ls (x :: st)) Q := by
  subst hp; exact own_step (fun _ q => XS.dup X.here hx rfl hd rfl hc q) k
theorem own_pop (X : Stand p l e R s m args below meth c T locs cells slots) (hx : p.tables.exec = Jvm.exec) {x : Value} (hp : pc + 1 = pc') (hd : decode c.code pc = .ok (.pop, 1)) (hc : x.category = 1) (k : own_Goes p e below T (mkF m pc' Ls st) Q) : own_Goes p e below T (mkF m pc Ls (x :: st)) Q := by
  subst hp; exact own_step (fun _ q => XT.pop X.here hx rfl hd rfl hc q) k
theorem own_goto (X : Stand p l e R s m args below meth c T locs cells slots) (hx : p.tables.exec = Jvm.exec) {o : Int} (hd : decode c.code pc = .ok (.goto o, 3)) (ho : 0 ≤ (pc : Int) + o) (hp : ((pc : Int) + o).toNat = pc') (k : own_Goes p e below T (mkF m pc' Ls st) Q) : own_Goes p e below T (mkF m pc Ls st) Q := own_step (fun _ q => XS.goto X.here hx rfl (pc0 := pc) (pc' := pc') rfl hd ho hp q) k
theorem own_ifT (X : Stand p l e R s m args below meth c T locs cells slots) (hx : p.tables.exec = Jvm.exec) {cd : ClassFile.Cond} {x : Int32} {o : Int} (hd : decode c.code pc = .ok (.ifCond cd o, 3)) (hc : ifCond.holds cd x = true) (ho : 0 ≤ (pc : Int) + o) (hp : ((pc : Int) + o).toNat = pc') (k : own_Goes p e below T (mkF m pc' Ls st) Q) : own_Goes p e below T (mkF m pc Ls (.int x :: st)) Q := own_step (fun _ q => XS.ifYes X.here hx rfl (pc0 := pc) (pc' := pc') rfl hd rfl hc ho hp q) k
theorem own_ifF (X : Stand p l e R s m args below meth c T locs cells slots) (hx : p.tables.exec = Jvm.exec) {cd : ClassFile.Cond} {x : Int32} {o : Int} (hp : pc + 3 = pc') (hd : decode c.code pc = .ok (.ifCond cd o, 3)) (hc : ifCond.holds cd x = false) (k : own_Goes p e below T (mkF m pc' Ls st) Q) : own_Goes p e below T (mkF m pc Ls (.int x :: st)) Q := by
  subst hp; exact own_step (fun _ q => XS.ifNo X.here hx rfl hd rfl hc q) k
theorem own_icmpT (X : Stand p l e R s m args below meth c T locs cells slots) (hx : p.tables.exec = Jvm.exec) {cd : ClassFile.Cond} {x y : Int32} {o : Int} (hd : decode c.code pc = .ok (.if_icmp cd o, 3)) (hc : if_icmp.holds cd x y = true) (ho : 0 ≤ (pc : Int) + o) (hp : ((pc : Int) + o).toNat = pc') (k : own_Goes p e below T (mkF m pc' Ls st) Q) : own_Goes p e below T (mkF m pc Ls (.int y :: .int x :: st)) Q := own_step (fun _ q => XS.icmpYes X.here hx rfl (pc0 := pc) (pc' := pc') rfl hd rfl hc ho hp q) k
theorem own_icmpF (X : Stand p l e R s m args below meth c T locs cells slots) (hx : p.tables.exec = Jvm.exec) {cd : ClassFile.Cond} {x y : Int32} {o : Int} (hp : pc + 3 = pc') (hd : decode c.code pc = .ok (.if_icmp cd o, 3)) (hc : if_icmp.holds cd x y = false) (k : own_Goes p e below T (mkF m pc' Ls st) Q) : own_Goes p e below T (mkF m pc Ls (.int y :: .int x :: st)) Q := by
  subst hp; exact own_step (fun _ q => XS.icmpNo X.here hx rfl hd rfl hc q) k
theorem own_acmpT (X : Stand p l e R s m args below meth c T locs cells slots) (hx : p.tables.exec = Jvm.exec) {cd : ClassFile.ACond} {x y : Value} {o : Int} (hd : decode c.code pc = .ok (.if_acmp cd o, 3)) (h1 : x.isRef = true) (h2 : y.isRef = true) (hc : XT.acmp cd x y = true) (ho : 0 ≤ (pc : Int) + o) (hp : ((pc : Int) + o).toNat = pc') (k : own_Goes p e below T (mkF m pc' Ls st) Q) : own_Goes p e below T (mkF m pc Ls (y :: x :: st)) Q := own_step (fun _ q => XT.acmpYes X.here hx rfl (pc0 := pc) (pc' := pc') rfl hd rfl h1 h2 hc ho hp q) k
theorem own_acmpF (X : Stand p l e R s m args below meth c T locs cells slots) (hx : p.tables.exec = Jvm.exec) {cd : ClassFile.ACond} {x y : Value} {o : Int} (hp : pc + 3 = pc') (hd : decode c.code pc = .ok (.if_acmp cd o, 3)) (h1 : x.isRef = true) (h2 : y.isRef = true) (hc : XT.acmp cd x y = false) (k : own_Goes p e below T (mkF m pc' Ls st) Q) : own_Goes p e below T (mkF m pc Ls (y :: x :: st)) Q := by
  subst hp; exact own_step (fun _ q => XT.acmpNo X.here hx rfl hd rfl h1 h2 hc q) k
theorem own_ldc (X : Stand p l e R s m args below meth c T locs cells slots) (hx : p.tables.exec = Jvm.exec) (hZ : Z.Warmed39 s.vm) {own : String} {index : Nat} {v : Int32} (hown : s.vm.findClass own = some m.cls) (w : (Jvm.Cond.constant own index v).before a0 Z = true) (hp : pc + 2 = pc') (hd : decode c.code pc = .ok (.ldc index, 2)) (k : own_Goes p e below T (mkF m pc' Ls (.int v :: st)) Q) : own_Goes p e below T (mkF m pc Ls st) Q := by
  subst hp; exact own_step (fun _ q => X.ldcI hx hown (mvT hZ w) rfl hd q) k
theorem own_ldc2_w (X : Stand p l e R s m args below meth c T locs cells slots) (hx : p.tables.exec = Jvm.exec) (hZ : Z.Warmed39 s.vm) {own : String} {index : Nat} {v : Int64} (hown : s.vm.findClass own = some m.cls) (w : (Jvm.Cond.constantLong own index v).before a0 Z = true) (hp : pc + 3 = pc') (hd : decode c.code pc = .ok (.ldc2_w index, 3)) (k : own_Goes p e below T (mkF m pc' Ls (.long v :: st)) Q) : own_Goes p e below T (mkF m pc Ls st) Q := by
  subst hp; exact own_step (fun _ q => X.ldc2J hx hown (mvT hZ w) rfl hd q) k
theorem own_retW (X : Stand p l e R s m args below meth c T locs cells slots) (hx : p.tables.exec = Jvm.exec) (hlk : meth.locks = false) {w : Option Value} (hv : meth.sig.returnType = none → w = none) {F : JFrame} (run : ∀ fs, (∀ (f : JFrame) (acts : List Action), f.method = m → f.locked = none → f.entered = [] → (doReturn e (T.setTop f) acts w).1 = T.setFrames fs) → Steps p.tables e below (T.setTop F) (T.setFrames fs)) {K : Option Value → Heap → List Loc → Prop} {rc rs : Nat} (hc : cells ≤ rc) (hs : slots ≤ rs) (hQ : K w T.heap locs) : own_Goes p e below T F (own_Ret s K rc rs) := by
  obtain ⟨fs, hr, hrun, hended, hW, hsame⟩ := X.leave (v := w) hv hlk
  exact ⟨_, _, run fs hr, hrun, hended, w, locs, rfl, hQ, ⟨_, rfl⟩, hW, hsame.mono hc hs⟩
theorem own_iret (X : Stand p l e R s m args below meth c T locs cells slots) (hx : p.tables.exec = Jvm.exec) (hlk : meth.locks = false) {z : Int32} (hret : meth.sig.returnType = some .int) (hd : decode c.code pc = .ok (.ireturn, 1)) {K : Option Value → Heap → List Loc → Prop} {rc rs : Nat} (hc : cells ≤ rc) (hs : slots ≤ rs) (hQ : K (some (.int z)) T.heap locs) : own_Goes p e below T (mkF m pc Ls (.int z :: st)) (own_Ret s K rc rs) :=
  own_retW X hx hlk (fun q => by rw [hret] at q; cases q) (fun fs hr => retOut X hx hret rfl (Or.inl ⟨rfl, Or.inl rfl, z, rfl⟩) hd hr) hc hs hQ
theorem own_zret (X : Stand p l e R s m args below meth c T locs cells slots) (hx : p.tables.exec = Jvm.exec) (hlk : meth.locks = false) {z : Int32} {t : FieldType} (hret : meth.sig.returnType = some t) (ht : t = .boolean ∨ t = .byte ∨ t = .char ∨ t = .short) (hd : decode c.code pc = .ok (.ireturn, 1)) {K : Option Value → Heap → List Loc → Prop} {rc rs : Nat} (hc : cells ≤ rc) (hs : slots ≤ rs) (hQ : K (some (.int (nar t z))) T.heap locs) : own_Goes p e below T (mkF m pc Ls (.int z :: st)) (own_Ret s K rc rs) :=
  own_retW X hx hlk (fun q => by rw [hret] at q; cases q) (fun fs hr => retN X hx hret ht hd hr) hc hs hQ
theorem own_lret (X : Stand p l e R s m args below meth c T locs cells slots) (hx : p.tables.exec = Jvm.exec) (hlk : meth.locks = false) {z : Int64} (hret : meth.sig.returnType = some .long) (hd : decode c.code pc = .ok (.lreturn, 1)) {K : Option Value → Heap → List Loc → Prop} {rc rs : Nat} (hc : cells ≤ rc) (hs : slots ≤ rs) (hQ : K (some (.long z)) T.heap locs) : own_Goes p e below T (mkF m pc Ls (.long z :: st)) (own_Ret s K rc rs) :=
  own_retW X hx hlk (fun q => by rw [hret] at q; cases q) (fun fs hr => retOut X hx hret rfl (Or.inr (Or.inl ⟨rfl, rfl, z, rfl⟩)) hd hr) hc hs hQ
theorem own_aret (X : Stand p l e R s m args below meth c T locs cells slots) (hx : p.tables.exec = Jvm.exec) (hlk : meth.locks = false) {z : Value} {t : FieldType} (hret : meth.sig.returnType = some t) (ht : t.isReference = true) (hz : z.isRef = true) (hd : decode c.code pc = .ok (.areturn, 1)) {K : Option Value → Heap → List Loc → Prop} {rc rs : Nat} (hc : cells ≤ rc) (hs : slots ≤ rs) (hQ : K (some z) T.heap locs) : own_Goes p e below T (mkF m pc Ls (z :: st)) (own_Ret s K rc rs) :=
  own_retW X hx hlk (fun q => by rw [hret] at q; cases q) (fun fs hr => retOut X hx hret (by cases t <;> simp [FieldType.isReference] at ht <;> cases z <;> simp [Value.isRef] at hz <;> rfl) (Or.inr (Or.inr (Or.inr (Or.inr ⟨rfl, ht, hz⟩)))) hd hr) hc hs hQ
theorem own_ret (X : Stand p l e R s m args below meth c T locs cells slots) (hx : p.tables.exec = Jvm.exec) (hlk : meth.locks = false) (hret : meth.sig.returnType = none) (hd : decode c.code pc = .ok (.return_, 1)) {K : Option Value → Heap → List Loc → Prop} {rc rs : Nat} (hc : cells ≤ rc) (hs : slots ≤ rs) (hQ : K none T.heap locs) : own_Goes p e below T (mkF m pc Ls []) (own_Ret s K rc rs) :=
  own_retW X hx hlk (fun _ => rfl) (fun fs hr => X.returnOut hx hret hd hr) hc hs hQ
theorem own_dload (X : Stand p l e R s m args below meth c T locs cells slots) (hx : p.tables.exec = Jvm.exec) {k : Nat} {v : UInt64} (hp : pc + 2 = pc') (hd : decode c.code pc = .ok (.dload k, 2)) (hl : Ls[k]? = some (.val (.double v))) (k : own_Goes p e below T (mkF m pc' Ls (.double v :: st)) Q) : own_Goes p e below T (mkF m pc Ls st) Q := by
  subst hp; exact own_step (fun _ q => XS.dload X.here hx rfl hd hl q) k
theorem own_dloadN (X : Stand p l e R s m args below meth c T locs cells slots) (hx : p.tables.exec = Jvm.exec) {k : Fin 4} {v : UInt64} (hp : pc + 1 = pc') (hd : decode c.code pc = .ok (.dload_n k, 1)) (hl : Ls[k.val]? = some (.val (.double v))) (k : own_Goes p e below T (mkF m pc' Ls (.double v :: st)) Q) : own_Goes p e below T (mkF m pc Ls st) Q := by
  subst hp; exact own_step (fun _ q => XS.dloadN X.here hx rfl hd hl q) k
theorem own_dstore (X : Stand p l e R s m args below meth c T locs cells slots) (hx : p.tables.exec = Jvm.exec) {k : Nat} {v : UInt64} (hp : pc + 2 = pc') (hd : decode c.code pc = .ok (.dstore k, 2)) (hl : storeLocals Ls k (.double v) = some Ls') (k : own_Goes p e below T (mkF m pc' Ls' st) Q) : own_Goes p e below T (mkF m pc Ls (.double v :: st)) Q := by
  subst hp; exact own_step (fun _ q => XS.dstore X.here hx rfl hd rfl hl q) k
theorem own_dstoreN (X : Stand p l e R s m args below meth c T locs cells slots) (hx : p.tables.exec = Jvm.exec) {k : Fin 4} {v : UInt64} (hp : pc + 1 = pc') (hd : decode c.code pc = .ok (.dstore_n k, 1)) (hl : storeLocals Ls k.val (.double v) = some Ls') (k : own_Goes p e below T (mkF m pc' Ls' st) Q) : own_Goes p e below T (mkF m pc Ls (.double v :: st)) Q := by
  subst hp; exact own_step (fun _ q => XS.dstoreN X.here hx rfl hd rfl hl q) k
theorem own_dconst0 (X : Stand p l e R s m args below meth c T locs cells slots) (hx : p.tables.exec = Jvm.exec) {v : UInt64} (hp : pc + 1 = pc') (hd : decode c.code pc = .ok (.dconst 0, 1)) (hv : FP.dconst0 = v) (k : own_Goes p e below T (mkF m pc' Ls (.double v :: st)) Q) : own_Goes p e below T (mkF m pc Ls st) Q := by
  subst hp; exact own_step (fun _ q => XS.dconst0 X.here hx rfl hd hv q) k
theorem own_dconst1 (X : Stand p l e R s m args below meth c T locs cells slots) (hx : p.tables.exec = Jvm.exec) {v : UInt64} (hp : pc + 1 = pc') (hd : decode c.code pc = .ok (.dconst 1, 1)) (hv : FP.dconst1 = v) (k : own_Goes p e below T (mkF m pc' Ls (.double v :: st)) Q) : own_Goes p e below T (mkF m pc Ls st) Q := by
  subst hp; exact own_step (fun _ q => XS.dconst1 X.here hx rfl hd hv q) k
theorem own_i2d (X : Stand p l e R s m args below meth c T locs cells slots) (hx : p.tables.exec = Jvm.exec) {x : Int32} {v : UInt64} (hp : pc + 1 = pc') (hd : decode c.code pc = .ok (.i2d, 1)) (hv : FP.i2d x = v) (k : own_Goes p e below T (mkF m pc' Ls (.double v :: st)) Q) : own_Goes p e below T (mkF m pc Ls (.int x :: st)) Q := by
  subst hp; exact own_step (fun _ q => XS.i2dS X.here hx rfl hd rfl hv q) k
theorem own_l2d (X : Stand p l e R s m args below meth c T locs cells slots) (hx : p.tables.exec = Jvm.exec) {x : Int64} {v : UInt64} (hp : pc + 1 = pc') (hd : decode c.code pc = .ok (.l2d, 1)) (hv : FP.l2d x = v) (k : own_Goes p e below T (mkF m pc' Ls (.double v :: st)) Q) : own_Goes p e below T (mkF m pc Ls (.long x :: st)) Q := by
  subst hp; exact own_step (fun _ q => XS.l2dS X.here hx rfl hd rfl hv q) k
theorem own_dneg (X : Stand p l e R s m args below meth c T locs cells slots) (hx : p.tables.exec = Jvm.exec) {x v : UInt64} (hp : pc + 1 = pc') (hd : decode c.code pc = .ok (.dneg, 1)) (hv : FP.dneg x = v) (k : own_Goes p e below T (mkF m pc' Ls (.double v :: st)) Q) : own_Goes p e below T (mkF m pc Ls (.double x :: st)) Q := by
  subst hp; exact own_step (fun _ q => XS.dnegS X.here hx rfl hd rfl hv q) k
theorem own_dcmp (X : Stand p l e R s m args below meth c T locs cells slots) (hx : p.tables.exec = Jvm.exec) {o : CmpOp} {x y : UInt64} {v : Int32} (hp : pc + 1 = pc') (hd : decode c.code pc = .ok (.dcmp o, 1)) (hv : cmpValue (FP.dcmp x y) o = v) (k : own_Goes p e below T (mkF m pc' Ls (.int v :: st)) Q) : own_Goes p e below T (mkF m pc Ls (.double y :: .double x :: st)) Q := by
  subst hp; exact own_step (fun _ q => XS.dcmpS X.here hx rfl hd rfl hv q) k
theorem own_dadd (X : Stand p l e R s m args below meth c T locs cells slots) (hx : p.tables.exec = Jvm.exec) {x y v : UInt64} (hp : pc + 1 = pc') (hd : decode c.code pc = .ok (.dadd, 1)) (hn : Jvm.Free.Fl.NoNaN64 (FP.dadd x y)) (hv : FP.dadd x y = v) (k : own_Goes p e below T (mkF m pc' Ls (.double v :: st)) Q) : own_Goes p e below T (mkF m pc Ls (.double y :: .double x :: st)) Q := by
  subst hp; exact own_step (fun _ q => XS.daddS X.here hx rfl hd rfl hn hv q) k
theorem own_dsub (X : Stand p l e R s m args below meth c T locs cells slots) (hx : p.tables.exec = Jvm.exec) {x y v : UInt64} (hp : pc + 1 = pc') (hd : decode c.code pc = .ok (.dsub, 1)) (hn : Jvm.Free.Fl.NoNaN64 (FP.dsub x y)) (hv : FP.dsub x y = v) (k : own_Goes p e below T (mkF m pc' Ls (.double v :: st)) Q) : own_Goes p e below T (mkF m pc Ls (.double y :: .double x :: st)) Q := by
  subst hp; exact own_step (fun _ q => XS.dsubS X.here hx rfl hd rfl hn hv q) k
theorem own_dmul (X : Stand p l e R s m args below meth c T locs cells slots) (hx : p.tables.exec = Jvm.exec) {x y v : UInt64} (hp : pc + 1 = pc') (hd : decode c.code pc = .ok (.dmul, 1)) (hn : Jvm.Free.Fl.NoNaN64 (FP.dmul x y)) (hv : FP.dmul x y = v) (k : own_Goes p e below T (mkF m pc' Ls (.double v :: st)) Q) : own_Goes p e below T (mkF m pc Ls (.double y :: .double x :: st)) Q := by
  subst hp; exact own_step (fun _ q => XS.dmulS X.here hx rfl hd rfl hn hv q) k
theorem own_ddiv (X : Stand p l e R s m args below meth c T locs cells slots) (hx : p.tables.exec = Jvm.exec) {x y v : UInt64} (hp : pc + 1 = pc') (hd : decode c.code pc = .ok (.ddiv, 1)) (hn : Jvm.Free.Fl.NoNaN64 (FP.ddiv x y)) (hv : FP.ddiv x y = v) (k : own_Goes p e below T (mkF m pc' Ls (.double v :: st)) Q) : own_Goes p e below T (mkF m pc Ls (.double y :: .double x :: st)) Q := by
  subst hp; exact own_step (fun _ q => XS.ddivS X.here hx rfl hd rfl hn hv q) k
theorem own_ldcD (X : Stand p l e R s m args below meth c T locs cells slots) (hx : p.tables.exec = Jvm.exec) (hZ : Z.Warmed39 s.vm) {own : String} {index : Nat} {v : UInt64} (hown : s.vm.findClass own = some m.cls) (w : (Jvm.Cond.constantDouble own index v).before a0 Z = true) (hp : pc + 3 = pc') (hd : decode c.code pc = .ok (.ldc2_w index, 3)) (k : own_Goes p e below T (mkF m pc' Ls (.double v :: st)) Q) : own_Goes p e below T (mkF m pc Ls st) Q := by
  subst hp; exact own_step (fun t q => X.ldc2DoubleC hx hown (mvT hZ w) (g := mkF m pc Ls st) rfl hd t q) k
theorem own_dret (X : Stand p l e R s m args below meth c T locs cells slots) (hx : p.tables.exec = Jvm.exec) (hlk : meth.locks = false) {z : UInt64} (hret : meth.sig.returnType = some .double) (hd : decode c.code pc = .ok (.dreturn, 1)) {K : Option Value → Heap → List Loc → Prop} {rc rs : Nat} (hc : cells ≤ rc) (hs : slots ≤ rs) (hQ : K (some (.double z)) T.heap locs) : own_Goes p e below T (mkF m pc Ls (.double z :: st)) (own_Ret s K rc rs) :=
  own_retW X hx hlk (fun q => by rw [hret] at q; cases q) (fun fs hr => retOut X hx hret rfl (Or.inr (Or.inr (Or.inl ⟨rfl, rfl, z, rfl⟩))) hd hr) hc hs hQ
theorem own_getF (X : Stand p l e R s m args below meth c T locs cells slots) (hx : p.tables.exec = Jvm.exec) (hZ : Z.Warmed39 s.vm) {own R0 O n d host : String} {index : Nat} (hown : s.vm.findClass own = some m.cls) (w : (Jvm.Cond.fieldLink own index R0 n d).before a0 Z = true ∨ (Jvm.Cond.fieldLinkNest own index R0 n d host).before a0 Z = true) (via : Via Z R0 O n d) (eT : T.heap = h) {a : Addr} {v : Value} (F : Fld Z h a O n d v) (hp : pc + 3 = pc') (hd : decode c.code pc = .ok (.getfield index, 3))
    (k : ∀ T', Stand p l e R s m args below meth c T' locs cells slots → T'.heap = h → own_Goes p e below T' (mkF m pc' Ls (v :: st)) Q) : own_Goes p e below T (mkF m pc Ls (.ref a :: st)) Q := by
  subst hp
  obtain ⟨T', X', e', stp⟩ := getF X hx hZ hown w via eT F (g := mkF m pc Ls (.ref a :: st)) rfl rfl hd
  exact own_step stp (k T' X' e')
theorem own_putF (X : Stand p l e R s m args below meth c T locs cells slots) (hx : p.tables.exec = Jvm.exec) (hZ : Z.Warmed39 s.vm) {own R0 O n d host C : String} {index kk : Nat} {ty : FieldType} (hown : s.vm.findClass own = some m.cls) (w : (Jvm.Cond.fieldLink own index R0 n d).before a0 Z = true ∨ (Jvm.Cond.fieldLinkNest own index R0 n d host).before a0 Z = true) (via : Via Z R0 O n d) (eT : T.heap = h) {a : Addr} {v old : Value} (F : Fld Z h a O n d old) (E : Exa Z h a C)
    (L : (Jvm.Cond.lays C O n d).before a0 Z = true ∨ ((Jvm.Cond.laysFinal C O n d).before a0 Z = true ∧ own = O ∧ meth.name = "<init>")) (wi : (Jvm.Cond.instantiable C kk).before a0 Z = true) (hty : parseFieldDescriptor d = some ty) (hn : narrow ty v = v) (hf : fits ty v = true) (hp : pc + 3 = pc') (hd : decode c.code pc = .ok (.putfield index, 3))
    (k : ∀ T' h', Stand p l e R s m args below meth c T' (locs ++ [⟨a, Jvm.RoadKit.slotOf Z O n d⟩]) cells slots → T'.heap = h' → Wr h h' a (Jvm.RoadKit.slotOf Z O n d) v → own_Goes p e below T' (mkF m pc' Ls st) Q) : own_Goes p e below T (mkF m pc Ls (v :: .ref a :: st)) Q := by
  subst hp
  obtain ⟨T', h', X', e', W', stp⟩ := putF X hx hZ hown w via eT F E L wi hty hn hf (g := mkF m pc Ls (v :: .ref a :: st)) rfl rfl hd
  exact own_step stp (k T' h' X' e' W')
theorem own_getS (X : Stand p l e R s m args below meth c T locs cells slots) (hx : p.tables.exec = Jvm.exec) (hZ : Z.Warmed39 s.vm) {own R0 O n d : String} {index : Nat} (hown : s.vm.findClass own = some m.cls) (w : (Jvm.Cond.fieldLink own index R0 n d).before a0 Z = true) (via : Via Z R0 O n d) (eT : T.heap = h) {v : Value} (F : Sta Z h O n d v) (hp : pc + 3 = pc') (hd : decode c.code pc = .ok (.getstatic index, 3))
    (k : ∀ T', Stand p l e R s m args below meth c T' locs cells slots → T'.heap = h → own_Goes p e below T' (mkF m pc' Ls (v :: st)) Q) : own_Goes p e below T (mkF m pc Ls st) Q := by
  subst hp
  obtain ⟨T', X', e', stp⟩ := getS X hx hZ (host := "") hown w via eT F (g := mkF m pc Ls st) rfl hd
  exact own_step stp (k T' X' e')
theorem own_new (X : Stand p l e R s m args below meth c T locs cells slots) (hx : p.tables.exec = Jvm.exec) (hZ : Z.Warmed39 s.vm) {own C : String} {index n : Nat} (hown : s.vm.findClass own = some m.cls) (w : (Jvm.Cond.classLink own index C).before a0 Z = true) (wi : (Jvm.Cond.instantiable C n).before a0 Z = true) (wz : (Jvm.Cond.initialized C).before a0 Z = true) (eT : T.heap = h) (hp : pc + 3 = pc') (hd : decode c.code pc = .ok (.new index, 3)) (hc : cells + 1 ≤ R.cells) (hl : slots + n ≤ R.slots)
    (k : ∀ T' h', Stand p l e R s m args below meth c T' locs (cells + 1) (slots + n) → T'.heap = h' → Ext h h' → Exa Z h' h.size C → (∀ {O nm d : String} {ty : FieldType}, Laid Z a0 C O nm d → parseFieldDescriptor d = some ty → Fld Z h' h.size O nm d (defaultValue ty)) → own_Goes p e below T' (mkF m pc' Ls (.ref h.size :: st)) Q) : own_Goes p e below T (mkF m pc Ls st) Q := by
  subst hp
  obtain ⟨T', h', X', e', E', A', D', -, stp⟩ := newO X hx hZ hown w wi wz eT (g := mkF m pc Ls st) rfl hd hc hl
  exact own_step stp (k T' h' X' e' E' A' D')
theorem own_initO (X : Stand p l e R s m args below meth c T locs cells slots) (hx : p.tables.exec = Jvm.exec) (hZ : Z.Warmed39 s.vm) {own : String} {idx : Nat} (hown : s.vm.findClass own = some m.cls) (w1 : (Jvm.Cond.methodLink own idx Lib.objectInit).before a0 Z = true) (w2 : (Jvm.Cond.instanceMethod Lib.objectInit).before a0 Z = true) (w3 : (Jvm.Cond.code Lib.objectInit ⟨#[0xb1]⟩ 1 none).before a0 Z = true) (eT : T.heap = h) (hsize : Ls.size = c.maxLocals) {a : Addr} (hp : pc + 3 = pc') (hd : decode c.code pc = .ok (.invokespecial idx, 3)) (hf : 1 ≤ R.frames) {W : Nat} (hW : (st.map fun v => v.category).sum ≤ W) (hl : W + 12 ≤ R.locals)
    (k : ∀ T', Stand p l e R s m args below meth c T' locs cells slots → T'.heap = h → own_Goes p e below T' (mkF m pc' Ls st) Q) : own_Goes p e below T (mkF m pc Ls (.ref a :: st)) Q := by
  subst hp
  obtain ⟨T', X', e', stp⟩ := initO X hx hZ hown w1 w2 w3 eT (g := mkF m pc Ls (.ref a :: st)) rfl hsize rfl hd hf (W := W) (by show 2 * 0 + _ ≤ _; omega) hl
  exact own_step stp (k T' X' e')
theorem own_callS (X : Stand p l e R s m args below meth c T locs cells slots) (hx : p.tables.exec = Jvm.exec) (hZ : Z.Warmed39 s.vm) {own : String} {index : Nat} {y : MethodName} {bytes : ByteArray} {maxL : Nat} {rt : Option FieldType} (hown : s.vm.findClass own = some m.cls) (w1 : (Jvm.Cond.methodLink own index y).before a0 Z = true) (w2 : (Jvm.Cond.static y).before a0 Z = true) (w3 : (Jvm.Cond.initialized y.cls).before a0 Z = true) (w4 : (Jvm.Cond.code y bytes maxL rt).before a0 Z = true) (hy : y.cls ≠ "java/lang/invoke/MethodHandle" ∧ y.cls ≠ "java/lang/invoke/VarHandle") {rm : Room} {as' : Array Value} {K : Option Value → Heap → List Loc → Prop} {W : Nat} (hM : MetFree l y (head1 [Jvm.Cond.code y bytes maxL rt] rm) (fun a U => a = as' ∧ Z.Warmed39 U.vm ∧ U.heap = h) (fun _ _ _ _ _ => True) (fun _ U o U' => ∃ v L, o = .returned v ∧ K v U'.heap L ∧ FrameEnd U o U' L rm.cells rm.slots)) (hf : rm.frames + 1 ≤ R.frames) (hl : W + (maxL + 11) + rm.locals ≤ R.locals) (hc : cells + rm.cells ≤ R.cells) (hs : slots + rm.slots ≤ R.slots) (eT : T.heap = h) (hsize : Ls.size = c.maxLocals) {argsL rest : List Value} (has : argsL.toArray = as') (hlen : ∀ sig, parseMethodDescriptor y.desc = some sig → argsL.length = sig.parameters.length) (hst : st = argsL.reverse ++ rest) (hW : (rest.map fun v => v.category).sum ≤ W) (hp : pc + 3 = pc') (hd : decode c.code pc = .ok (.invokestatic index, 3))
    (k : ∀ v T' L, Stand p l e R s m args below meth c T' (locs ++ L) (cells + rm.cells) (slots + rm.slots) → K v T'.heap L → own_Goes p e below T' (mkF m pc' Ls (v.toList ++ rest)) Q) : own_Goes p e below T (mkF m pc Ls st) Q := by
  subst hp
  obtain ⟨v, _, ⟨T', L', k', n'⟩, -, X', ⟨Lc, hQ, l1, y1, z1⟩, stp⟩ := Jvm.LawKit.callS X hx (y := y) hown (mvT hZ w1) (mvT hZ w2) (mvT hZ w3) (mvT hZ w4) hy (backOf (W := W) hM hZ w4 w3 hf hl) (g := mkF m pc Ls st) rfl hsize (argsL := argsL) (rest := rest) hlen hst (by show 2 * 0 + _ ≤ _; omega) hd (fun _ _ => ⟨has, eT, hc, hs⟩)
  dsimp only [Pt.U, Pt.locs, Pt.cells, Pt.slots] at X' l1 y1 z1 stp hQ
  subst l1 y1 z1
  exact own_step stp (k v T' Lc X' hQ)
theorem own_callC (X : Stand p l e R s m args below meth c T locs cells slots) (hx : p.tables.exec = Jvm.exec) (hZ : Z.Warmed39 s.vm) {own : String} {index : Nat} {y : MethodName} {bytes : ByteArray} {maxL : Nat} {a : Addr} (hy1 : y.name = "<init>") (hown : s.vm.findClass own = some m.cls) (w1 : (Jvm.Cond.methodLink own index y).before a0 Z = true) (w2 : (Jvm.Cond.instanceMethod y).before a0 Z = true) (w3 : (Jvm.Cond.initialized y.cls).before a0 Z = true) (w4 : (Jvm.Cond.code y bytes maxL none).before a0 Z = true) (hy : y.cls ≠ "java/lang/invoke/MethodHandle" ∧ y.cls ≠ "java/lang/invoke/VarHandle") {rm : Room} {as' : Array Value} {K : Option Value → Heap → List Loc → Prop} {W : Nat} (hM : MetFree l y (head1 [Jvm.Cond.code y bytes maxL none] rm) (fun a U => a = as' ∧ Z.Warmed39 U.vm ∧ U.heap = h) (fun _ _ _ _ _ => True) (fun _ U o U' => ∃ v L, o = .returned v ∧ K v U'.heap L ∧ FrameEnd U o U' L rm.cells rm.slots)) (hf : rm.frames + 1 ≤ R.frames) (hl : W + (maxL + 11) + rm.locals ≤ R.locals) (hc : cells + rm.cells ≤ R.cells) (hs : slots + rm.slots ≤ R.slots) (eT : T.heap = h) (hsize : Ls.size = c.maxLocals) {argsL rest : List Value} (has : (Value.ref a :: argsL).toArray = as') (hlen : ∀ sig, parseMethodDescriptor y.desc = some sig → argsL.length = sig.parameters.length) (hst : st = argsL.reverse ++ .ref a :: rest) (hW : (rest.map fun v => v.category).sum ≤ W) (hp : pc + 3 = pc') (hd : decode c.code pc = .ok (.invokespecial index, 3))
    (k : ∀ v T' L, Stand p l e R s m args below meth c T' (locs ++ L) (cells + rm.cells) (slots + rm.slots) → K v T'.heap L → own_Goes p e below T' (mkF m pc' Ls (v.toList ++ rest)) Q) : own_Goes p e below T (mkF m pc Ls st) Q := by
  subst hp
  obtain ⟨v, _, ⟨T', L', k', n'⟩, -, X', ⟨Lc, hQ, l1, y1, z1⟩, stp⟩ := X.specialBack hx (y := y) hy1 hown (mvT hZ w1) (mvT hZ w2) (mvT hZ w4) hy (backOf (W := W) hM hZ w4 w3 hf hl) (g := mkF m pc Ls st) rfl hsize (Steps.refl _) (a := a) (argsL := argsL) (rest := rest) hlen hst (by show 2 * 0 + _ ≤ _; omega) hd (fun _ _ => ⟨has, eT, hc, hs⟩)
  dsimp only [Pt.U, Pt.locs, Pt.cells, Pt.slots] at X' l1 y1 z1 stp hQ
  subst l1 y1 z1
  exact own_step (fun _ q => stp.trans q) (k v T' Lc X' hQ)
theorem own_callV (X : Stand p l e R s m args below meth c T locs cells slots) (hx : p.tables.exec = Jvm.exec) (hZ : Z.Warmed39 s.vm) {own C : String} {index : Nat} {y : MethodName} {bytes : ByteArray} {maxL : Nat} {rt : Option FieldType} {a : Addr} (hown : s.vm.findClass own = some m.cls) (w1 : (Jvm.Cond.methodLink own index y).before a0 Z = true) (w2 : (Jvm.Cond.declares y).before a0 Z = true) (w5 : (Jvm.Cond.selects C y y).before a0 Z = true) (w6 : (Jvm.Cond.instanceMethod y).before a0 Z = true) (w3 : (Jvm.Cond.initialized y.cls).before a0 Z = true) (w4 : (Jvm.Cond.code y bytes maxL rt).before a0 Z = true) (E : Exa Z h a C) (hy : y.cls ≠ "java/lang/invoke/MethodHandle" ∧ y.cls ≠ "java/lang/invoke/VarHandle") {rm : Room} {as' : Array Value} {K : Option Value → Heap → List Loc → Prop} {W : Nat} (hM : MetFree l y (head1 [Jvm.Cond.code y bytes maxL rt] rm) (fun a U => a = as' ∧ Z.Warmed39 U.vm ∧ U.heap = h) (fun _ _ _ _ _ => True) (fun _ U o U' => ∃ v L, o = .returned v ∧ K v U'.heap L ∧ FrameEnd U o U' L rm.cells rm.slots)) (hf : rm.frames + 1 ≤ R.frames) (hl : W + (maxL + 11) + rm.locals ≤ R.locals) (hc : cells + rm.cells ≤ R.cells) (hs : slots + rm.slots ≤ R.slots) (eT : T.heap = h) (hsize : Ls.size = c.maxLocals) {argsL rest : List Value} (has : (Value.ref a :: argsL).toArray = as') (hlen : ∀ sig, parseMethodDescriptor y.desc = some sig → argsL.length = sig.parameters.length) (hst : st = argsL.reverse ++ .ref a :: rest) (hW : (rest.map fun v => v.category).sum ≤ W) (hp : pc + 3 = pc') (hd : decode c.code pc = .ok (.invokevirtual index, 3))
    (k : ∀ v T' L, Stand p l e R s m args below meth c T' (locs ++ L) (cells + rm.cells) (slots + rm.slots) → K v T'.heap L → own_Goes p e below T' (mkF m pc' Ls (v.toList ++ rest)) Q) : own_Goes p e below T (mkF m pc Ls st) Q := by
  subst hp
  obtain ⟨cq, kq, qa, qb, qc⟩ := isOf hZ eT E
  obtain ⟨v, _, ⟨T', L', k', n'⟩, -, X', ⟨Lc, hQ, l1, y1, z1⟩, stp⟩ := X.virtualBack hx (y := y) (z := y) hown (mvT hZ w1) (mvT hZ w2) (notFace_of_selects (args := #[]) (mvT hZ w5)) (mvT hZ w5) (mvT hZ w6) hy (backOf (W := W) hM hZ w4 w3 hf hl) qa qc (g := mkF m pc Ls st) rfl hsize (Steps.refl _) (argsL := argsL) (rest := rest) hlen hst (by show 2 * 0 + _ ≤ _; omega) hd (fun _ _ => ⟨has, eT, hc, hs⟩)
  dsimp only [Pt.U, Pt.locs, Pt.cells, Pt.slots] at X' l1 y1 z1 stp hQ
  subst l1 y1 z1
  exact own_step (fun _ q => stp.trans q) (k v T' Lc X' hQ)
theorem own_callP (X : Stand p l e R s m args below meth c T locs cells slots) (hx : p.tables.exec = Jvm.exec) (hZ : Z.Warmed39 s.vm) {own C : String} {index : Nat} {y z z' : MethodName} {bytes : ByteArray} {maxL : Nat} {rt : Option FieldType} {a : Addr} {D : String} (hown : s.vm.findClass own = some m.cls) (w1 : (Jvm.Cond.methodLink own index y).before a0 Z = true) (w6 : (Jvm.Cond.instanceMethod y).before a0 Z = true) (w7 : (Jvm.Cond.privateMethod y).before a0 Z = true) (w5 : (Jvm.Cond.selects C z z').before a0 Z = true) (hcls : z'.cls = y.cls) (w3 : (Jvm.Cond.initialized y.cls).before a0 Z = true) (w4 : (Jvm.Cond.code y bytes maxL rt).before a0 Z = true) (E : Exa Z h a D) (hy : y.cls ≠ "java/lang/invoke/MethodHandle" ∧ y.cls ≠ "java/lang/invoke/VarHandle") {rm : Room} {as' : Array Value} {K : Option Value → Heap → List Loc → Prop} {W : Nat} (hM : MetFree l y (head1 [Jvm.Cond.code y bytes maxL rt] rm) (fun a U => a = as' ∧ Z.Warmed39 U.vm ∧ U.heap = h) (fun _ _ _ _ _ => True) (fun _ U o U' => ∃ v L, o = .returned v ∧ K v U'.heap L ∧ FrameEnd U o U' L rm.cells rm.slots)) (hf : rm.frames + 1 ≤ R.frames) (hl : W + (maxL + 11) + rm.locals ≤ R.locals) (hc : cells + rm.cells ≤ R.cells) (hs : slots + rm.slots ≤ R.slots) (eT : T.heap = h) (hsize : Ls.size = c.maxLocals) {argsL rest : List Value} (has : (Value.ref a :: argsL).toArray = as') (hlen : ∀ sig, parseMethodDescriptor y.desc = some sig → argsL.length = sig.parameters.length) (hst : st = argsL.reverse ++ .ref a :: rest) (hW : (rest.map fun v => v.category).sum ≤ W) (hp : pc + 3 = pc') (hd : decode c.code pc = .ok (.invokevirtual index, 3))
    (k : ∀ v T' L, Stand p l e R s m args below meth c T' (locs ++ L) (cells + rm.cells) (slots + rm.slots) → K v T'.heap L → own_Goes p e below T' (mkF m pc' Ls (v.toList ++ rest)) Q) : own_Goes p e below T (mkF m pc Ls st) Q := by
  subst hp
  have hs5 : (Jvm.Cond.selects C z z').before args s = true := mvT hZ w5
  obtain ⟨c2, r2, m2, -, -, q3, -, kP, hkP, hkPi⟩ := Cond.selects_spec hs5
  have hc2 : s.vm.findClass y.cls = some m2.cls := hcls ▸ findClass_of_methodNamed q3
  have hpriv := Cond.privateMethod_at (mvP hZ w7 (args := #[]))
  have hinst : (Jvm.Cond.instanceMethod y).before args s = true := mvT hZ w6
  have hsel := selects_self_of_private (args := args) hc2 hkP hkPi hpriv hinst hy
  obtain ⟨cq, qc, qc'⟩ := E.cell
  obtain ⟨v, _, ⟨T', L', k', n'⟩, -, X', ⟨Lc, hQ, l1, y1, z1⟩, stp⟩ := X.privateBack hx (y := y) hown (mvT hZ w1) hinst hsel hpriv (mvT hZ w4) hy (backOf (W := W) hM hZ w4 w3 hf hl) (g := mkF m pc Ls st) rfl hsize (Steps.refl _) (a := a) (cell := cq) (by rw [eT]; exact qc) qc' (argsL := argsL) (rest := rest) hlen hst (by show 2 * 0 + _ ≤ _; omega) hd (fun _ _ => ⟨has, eT, hc, hs⟩)
  dsimp only [Pt.U, Pt.locs, Pt.cells, Pt.slots] at X' l1 y1 z1 stp hQ
  subst l1 y1 z1
  exact own_step (fun _ q => stp.trans q) (k v T' Lc X' hQ)
theorem own_in {j : Int32} {k n : Nat} (hj : ¬ j < 0) (hk : j.toNatClampNeg = k) (hn : k < n) {cl : Cell} (hs : cl.slots.size = n) : ¬ (j < 0 ∨ cl.slots.size ≤ j.toNatClampNeg) := by
  rintro (q | q)
  · exact hj q
  · omega
theorem own_Arr.lt {a : Addr} {ty : FieldType} {n : Nat} {f : Nat → Value} (A : own_Arr Z h a ty n f) : a < h.size := by obtain ⟨c, A, -⟩ := A; exact A.lt
theorem own_Arr.ext {a : Addr} {ty : FieldType} {n : Nat} {f : Nat → Value} (E : Ext h h') (A : own_Arr Z h a ty n f) : own_Arr Z h' a ty n f := by obtain ⟨c, A, r⟩ := A; exact ⟨c, A.ext E, r⟩
theorem own_Arr.other {a b : Addr} {ty : FieldType} {n sl : Nat} {v : Value} {f : Nat → Value} (W : Wr h h' a sl v) (A : own_Arr Z h b ty n f) (q : b ≠ a) : own_Arr Z h' b ty n f := by obtain ⟨c, A, r⟩ := A; exact ⟨c, A.other W q, r⟩
theorem own_Arr.keep {a : Addr} {ty : FieldType} {n : Nat} {ws : List Addr} {f : Nat → Value} (K : Keep h h' ws) (A : own_Arr Z h a ty n f) (q : a ∉ ws) : own_Arr Z h' a ty n f := by obtain ⟨c, A, r⟩ := A; exact ⟨c, ⟨K.2.1 a c A.1 q, A.2⟩, r⟩
theorem own_Arr.congr {a : Addr} {ty : FieldType} {n : Nat} {f g : Nat → Value} (A : own_Arr Z h a ty n f) (q : ∀ j, j < n → f j = g j) : own_Arr Z h a ty n g := by
  obtain ⟨c, A, r1, r2, r3⟩ := A
  exact ⟨c, A, r1, r2, fun j hj => by rw [r3 j hj, q j hj]⟩
theorem own_sizWr {a : Addr} {sl n0 : Nat} {v : Value} (W : Wr h h' a sl v) (q : n0 ≤ h.size) : n0 ≤ h'.size := by rw [W.size]; exact q
theorem own_Arr.set {a : Addr} {ty : FieldType} {n k : Nat} {f : Nat → Value} {v : Value} {cl : Cell} (A : Arr Z h a cl ty) (r1 : cl.slots.size = n) (r2 : n < 2 ^ 31) (r3 : ∀ j, j < n → cl.slots[j]? = some (f j)) (hk : k < n) (W : Wr h h' a k v) : own_Arr Z h' a ty n (own_upd f k v) := by
  refine ⟨cl.setSlot k v, Arr.same W A, by rw [sz_set]; exact r1, r2, fun j hj => ?_⟩
  show (cl.slots.setIfInBounds k v)[j]? = _
  rw [Array.getElem?_setIfInBounds]
  by_cases q : k = j
  · subst q; simp [own_upd, r1, hk]
  · have q' : ¬ j = k := fun z => q z.symm
    simp [own_upd, q, q', r3 j hj]
theorem own_newarr (X : Stand p l e R s m args below meth c T locs cells slots) (hx : p.tables.exec = Jvm.exec) (hZ : Z.Warmed39 s.vm) {aty : ArrayType} (w : (Jvm.Cond.arrayClass (newarray.typeOf aty)).before a0 Z = true) (eT : T.heap = h) {n : Int32} (hp : pc + 2 = pc') (hd : decode c.code pc = .ok (.newarray aty, 2)) (hn : ¬ n < 0) {N : Nat} (hN : n.toNatClampNeg = N) {cap : Nat} (hcap : n.toNatClampNeg ≤ cap) (hb : cap * 8 ≤ 536870912) (hc : cells + 1 ≤ R.cells) (hl : slots + cap ≤ R.slots)
    (k : ∀ T' h', Stand p l e R s m args below meth c T' locs (cells + 1) (slots + cap) → T'.heap = h' → Ext h h' → own_Arr Z h' h.size (newarray.typeOf aty) N (fun _ => defaultValue (newarray.typeOf aty)) → own_Goes p e below T' (mkF m pc' Ls (.ref h.size :: st)) Q) : own_Goes p e below T (mkF m pc Ls (.int n :: st)) Q := by
  subst hp
  obtain ⟨T', h', cA, X', e', E', A', stp⟩ := newP X hx hZ w eT (g := mkF m pc Ls (.int n :: st)) rfl hd rfl hn hcap hb hc hl
  refine own_step stp (k T' h' X' e' E' ⟨_, A', by rw [sz_new, hN], by rw [← hN]; exact (back32 hn).2, fun j hj => ?_⟩)
  simp [newA, hN, hj]
theorem own_stI (X : Stand p l e R s m args below meth c T locs cells slots) (hx : p.tables.exec = Jvm.exec) (hZ : Z.Warmed39 s.vm) (eT : T.heap = h) {a : Addr} {n k : Nat} {f : Nat → Value} (A : own_Arr Z h a .int n f) {j : Int32} {x : Int32} (hj : ¬ j < 0) (hk : j.toNatClampNeg = k) (hn : k < n)  (hp : pc + 1 = pc') (hd : decode c.code pc = .ok (.iastore, 1))
    (q : ∀ T' h', Stand p l e R s m args below meth c T' (locs ++ [⟨a, k⟩]) cells slots → T'.heap = h' → Wr h h' a k (.int x) → own_Arr Z h' a .int n (own_upd f k (.int x)) → own_Goes p e below T' (mkF m pc' Ls st) Q) : own_Goes p e below T (mkF m pc Ls (.int x :: .int j :: .ref a :: st)) Q := by
  subst hp
  obtain ⟨cl, A, r1, r2, r3⟩ := A
  obtain ⟨T', h', X', e', W', stp⟩ := stI X hx hZ eT A (own_in hj hk hn r1) (g := mkF m pc Ls (.int x :: .int j :: .ref a :: st)) rfl rfl hd
  subst hk
  exact own_step stp (q T' h' X' e' W' (own_Arr.set A r1 r2 r3 hn W'))
theorem own_stJ (X : Stand p l e R s m args below meth c T locs cells slots) (hx : p.tables.exec = Jvm.exec) (hZ : Z.Warmed39 s.vm) (eT : T.heap = h) {a : Addr} {n k : Nat} {f : Nat → Value} (A : own_Arr Z h a .long n f) {j : Int32} {x : Int64} (hj : ¬ j < 0) (hk : j.toNatClampNeg = k) (hn : k < n)  (hp : pc + 1 = pc') (hd : decode c.code pc = .ok (.lastore, 1))
    (q : ∀ T' h', Stand p l e R s m args below meth c T' (locs ++ [⟨a, k⟩]) cells slots → T'.heap = h' → Wr h h' a k (.long x) → own_Arr Z h' a .long n (own_upd f k (.long x)) → own_Goes p e below T' (mkF m pc' Ls st) Q) : own_Goes p e below T (mkF m pc Ls (.long x :: .int j :: .ref a :: st)) Q := by
  subst hp
  obtain ⟨cl, A, r1, r2, r3⟩ := A
  obtain ⟨T', h', X', e', W', stp⟩ := stJ X hx hZ eT A (own_in hj hk hn r1) (g := mkF m pc Ls (.long x :: .int j :: .ref a :: st)) rfl rfl hd
  subst hk
  exact own_step stp (q T' h' X' e' W' (own_Arr.set A r1 r2 r3 hn W'))
theorem own_stB (X : Stand p l e R s m args below meth c T locs cells slots) (hx : p.tables.exec = Jvm.exec) (hZ : Z.Warmed39 s.vm) (eT : T.heap = h) {a : Addr} {n k : Nat} {f : Nat → Value} (A : own_Arr Z h a .byte n f) {j : Int32} {x y : Int32} (hj : ¬ j < 0) (hk : j.toNatClampNeg = k) (hn : k < n) (hv : nar .byte x = y) (hp : pc + 1 = pc') (hd : decode c.code pc = .ok (.bastore, 1))
    (q : ∀ T' h', Stand p l e R s m args below meth c T' (locs ++ [⟨a, k⟩]) cells slots → T'.heap = h' → Wr h h' a k (.int y) → own_Arr Z h' a .byte n (own_upd f k (.int y)) → own_Goes p e below T' (mkF m pc' Ls st) Q) : own_Goes p e below T (mkF m pc Ls (.int x :: .int j :: .ref a :: st)) Q := by
  subst hp; subst hv
  obtain ⟨cl, A, r1, r2, r3⟩ := A
  obtain ⟨T', h', X', e', W', stp⟩ := stB X hx hZ eT A (own_in hj hk hn r1) (g := mkF m pc Ls (.int x :: .int j :: .ref a :: st)) rfl rfl hd
  subst hk
  exact own_step stp (q T' h' X' e' W' (own_Arr.set A r1 r2 r3 hn W'))
theorem own_stC (X : Stand p l e R s m args below meth c T locs cells slots) (hx : p.tables.exec = Jvm.exec) (hZ : Z.Warmed39 s.vm) (eT : T.heap = h) {a : Addr} {n k : Nat} {f : Nat → Value} (A : own_Arr Z h a .char n f) {j : Int32} {x y : Int32} (hj : ¬ j < 0) (hk : j.toNatClampNeg = k) (hn : k < n) (hv : nar .char x = y) (hp : pc + 1 = pc') (hd : decode c.code pc = .ok (.castore, 1))
    (q : ∀ T' h', Stand p l e R s m args below meth c T' (locs ++ [⟨a, k⟩]) cells slots → T'.heap = h' → Wr h h' a k (.int y) → own_Arr Z h' a .char n (own_upd f k (.int y)) → own_Goes p e below T' (mkF m pc' Ls st) Q) : own_Goes p e below T (mkF m pc Ls (.int x :: .int j :: .ref a :: st)) Q := by
  subst hp; subst hv
  obtain ⟨cl, A, r1, r2, r3⟩ := A
  obtain ⟨T', h', X', e', W', stp⟩ := stC X hx hZ eT A (own_in hj hk hn r1) (g := mkF m pc Ls (.int x :: .int j :: .ref a :: st)) rfl rfl hd
  subst hk
  exact own_step stp (q T' h' X' e' W' (own_Arr.set A r1 r2 r3 hn W'))
theorem own_ldI (X : Stand p l e R s m args below meth c T locs cells slots) (hx : p.tables.exec = Jvm.exec) (hZ : Z.Warmed39 s.vm) (eT : T.heap = h) {a : Addr} {n k : Nat} {f : Nat → Value} (A : own_Arr Z h a .int n f) {j : Int32} (hj : ¬ j < 0) (hk : j.toNatClampNeg = k) (hn : k < n) {v : Value} (hv : f k = v) (hp : pc + 1 = pc') (hd : decode c.code pc = .ok (.iaload, 1)) (q : own_Goes p e below T (mkF m pc' Ls (v :: st)) Q) : own_Goes p e below T (mkF m pc Ls (.int j :: .ref a :: st)) Q := by
  subst hp
  obtain ⟨cl, A, r1, r2, r3⟩ := A
  exact own_step (fun t z => X.iaload hx (j := j) (v := v) (by rw [eT]; exact A.1) (State.isArrayOf_alike hZ.alike A.2.1) A.2.2 (own_in hj hk hn r1) (by rw [hk, r3 k hn, hv]) (g := mkF m pc Ls (.int j :: .ref a :: st)) rfl rfl hd t z) q
theorem own_ldJ (X : Stand p l e R s m args below meth c T locs cells slots) (hx : p.tables.exec = Jvm.exec) (hZ : Z.Warmed39 s.vm) (eT : T.heap = h) {a : Addr} {n k : Nat} {f : Nat → Value} (A : own_Arr Z h a .long n f) {j : Int32} (hj : ¬ j < 0) (hk : j.toNatClampNeg = k) (hn : k < n) {v : Value} (hv : f k = v) (hp : pc + 1 = pc') (hd : decode c.code pc = .ok (.laload, 1)) (q : own_Goes p e below T (mkF m pc' Ls (v :: st)) Q) : own_Goes p e below T (mkF m pc Ls (.int j :: .ref a :: st)) Q := by
  subst hp
  obtain ⟨cl, A, r1, r2, r3⟩ := A
  exact own_step (fun t z => X.laload hx (j := j) (v := v) (by rw [eT]; exact A.1) (State.isArrayOf_alike hZ.alike A.2.1) A.2.2 (own_in hj hk hn r1) (by rw [hk, r3 k hn, hv]) (g := mkF m pc Ls (.int j :: .ref a :: st)) rfl rfl hd t z) q
theorem own_ldB (X : Stand p l e R s m args below meth c T locs cells slots) (hx : p.tables.exec = Jvm.exec) (hZ : Z.Warmed39 s.vm) (eT : T.heap = h) {a : Addr} {n k : Nat} {f : Nat → Value} (A : own_Arr Z h a .byte n f) {j : Int32} (hj : ¬ j < 0) (hk : j.toNatClampNeg = k) (hn : k < n) {v : Value} (hv : f k = v) (hp : pc + 1 = pc') (hd : decode c.code pc = .ok (.baload, 1)) (q : own_Goes p e below T (mkF m pc' Ls (v :: st)) Q) : own_Goes p e below T (mkF m pc Ls (.int j :: .ref a :: st)) Q := by
  subst hp
  obtain ⟨cl, A, r1, r2, r3⟩ := A
  exact own_step (fun t z => X.baloadBytes hx (j := j) (v := v) (by rw [eT]; exact A.1) (State.isArrayOf_alike hZ.alike A.2.1) A.2.2 (own_in hj hk hn r1) (by rw [hk, r3 k hn, hv]) (g := mkF m pc Ls (.int j :: .ref a :: st)) rfl rfl hd t z) q
theorem own_ldC (X : Stand p l e R s m args below meth c T locs cells slots) (hx : p.tables.exec = Jvm.exec) (hZ : Z.Warmed39 s.vm) (eT : T.heap = h) {a : Addr} {n k : Nat} {f : Nat → Value} (A : own_Arr Z h a .char n f) {j : Int32} (hj : ¬ j < 0) (hk : j.toNatClampNeg = k) (hn : k < n) {v : Value} (hv : f k = v) (hp : pc + 1 = pc') (hd : decode c.code pc = .ok (.caload, 1)) (q : own_Goes p e below T (mkF m pc' Ls (v :: st)) Q) : own_Goes p e below T (mkF m pc Ls (.int j :: .ref a :: st)) Q := by
  subst hp
  obtain ⟨cl, A, r1, r2, r3⟩ := A
  exact own_step (fun t z => X.caload hx (j := j) (v := v) (by rw [eT]; exact A.1) (State.isArrayOf_alike hZ.alike A.2.1) A.2.2 (own_in hj hk hn r1) (by rw [hk, r3 k hn, hv]) (g := mkF m pc Ls (.int j :: .ref a :: st)) rfl rfl hd t z) q
theorem own_alen (X : Stand p l e R s m args below meth c T locs cells slots) (hx : p.tables.exec = Jvm.exec) (hZ : Z.Warmed39 s.vm) (eT : T.heap = h) {a : Addr} {ty : FieldType} {n : Nat} {f : Nat → Value} (A : own_Arr Z h a ty n f) {v : Int32} (hv : n.toInt32 = v) (hp : pc + 1 = pc') (hd : decode c.code pc = .ok (.arraylength, 1)) (q : own_Goes p e below T (mkF m pc' Ls (.int v :: st)) Q) : own_Goes p e below T (mkF m pc Ls (.ref a :: st)) Q := by
  subst hp; subst hv
  obtain ⟨cl, A, r1, r2, r3⟩ := A
  subst r1
  exact own_step (fun t z => X.arraylength hx (cell := cl) (by rw [eT]; exact A.1) (State.isArrayOf_alike hZ.alike A.2.1) (g := mkF m pc Ls (.ref a :: st)) rfl rfl hd t z) q
theorem own_instY (X : Stand p l e R s m args below meth c T locs cells slots) (hx : p.tables.exec = Jvm.exec) (hZ : Z.Warmed39 s.vm) {own K : String} {index : Nat} (hown : s.vm.findClass own = some m.cls) (w : (Jvm.Cond.classLink own index K).before a0 Z = true) (eT : T.heap = h) {a : Addr} (F : Ins Z h a K true) (hp : pc + 3 = pc') (hd : decode c.code pc = .ok (.instanceof index, 3))
    (k : ∀ T', Stand p l e R s m args below meth c T' locs cells slots → T'.heap = h → own_Goes p e below T' (mkF m pc' Ls (.int 1 :: st)) Q) : own_Goes p e below T (mkF m pc Ls (.ref a :: st)) Q := by
  subst hp
  obtain ⟨T', X', e', stp⟩ := instY X hx hZ hown w eT F (g := mkF m pc Ls (.ref a :: st)) rfl rfl hd
  exact own_step stp (k T' X' e')
theorem own_castY (X : Stand p l e R s m args below meth c T locs cells slots) (hx : p.tables.exec = Jvm.exec) (hZ : Z.Warmed39 s.vm) {own K : String} {index : Nat} (hown : s.vm.findClass own = some m.cls) (w : (Jvm.Cond.classLink own index K).before a0 Z = true) (eT : T.heap = h) {a : Addr} (F : Ins Z h a K true) (hp : pc + 3 = pc') (hd : decode c.code pc = .ok (.checkcast index, 3))
    (k : ∀ T', Stand p l e R s m args below meth c T' locs cells slots → T'.heap = h → own_Goes p e below T' (mkF m pc' Ls (.ref a :: st)) Q) : own_Goes p e below T (mkF m pc Ls (.ref a :: st)) Q := by
  subst hp
  obtain ⟨T', X', e', stp⟩ := castY X hx hZ hown w eT F (g := mkF m pc Ls (.ref a :: st)) rfl rfl hd
  exact own_step stp (k T' X' e')
theorem own_instNo (X : Stand p l e R s m args below meth c T locs cells slots) (hx : p.tables.exec = Jvm.exec) (hZ : Z.Warmed39 s.vm) {own K C : String} {index : Nat} (hown : s.vm.findClass own = some m.cls) (w : (Jvm.Cond.classLink own index K).before a0 Z = true) (eT : T.heap = h) {a : Addr} (E : Exa Z h a C) (F : ∃ c t, Z.vm.findClass C = some c ∧ Z.vm.findClass K = some t ∧ Z.vm.assignable c t = false) (hp : pc + 3 = pc') (hd : decode c.code pc = .ok (.instanceof index, 3))
    (k : ∀ T', Stand p l e R s m args below meth c T' locs cells slots → T'.heap = h → own_Goes p e below T' (mkF m pc' Ls (.int 0 :: st)) Q) : own_Goes p e below T (mkF m pc Ls (.ref a :: st)) Q := by
  subst hp
  obtain ⟨T', X', e', stp⟩ := instNo X hx hZ hown w eT E F (g := mkF m pc Ls (.ref a :: st)) rfl rfl hd
  exact own_step stp (k T' X' e')
theorem own_instNull (X : Stand p l e R s m args below meth c T locs cells slots) (hx : p.tables.exec = Jvm.exec) {index : Nat} (hp : pc + 3 = pc') (hd : decode c.code pc = .ok (.instanceof index, 3)) (k : own_Goes p e below T (mkF m pc' Ls (.int 0 :: st)) Q) : own_Goes p e below T (mkF m pc Ls (.null :: st)) Q := by
  subst hp; exact own_step (fun t q => X.instanceofNull hx (g := mkF m pc Ls (.null :: st)) rfl rfl hd t q) k
theorem own_fitR {v : Value} {C : String} (hv : v.isRef = true) : fits (.object C) v = true := by cases v <;> simp_all [fits, Value.isRef]
end Own
/-! 2. THE BODIES -/
/-! numbers -/
theorem own_tn {k : Nat} (h : k < 2147483648) : (Int32.ofNat k).toInt = k := Int32.toInt_ofNat_of_lt (by omega)
theorem own_ix {k : Nat} (h : k < 2147483648) : ¬ Int32.ofNat k < 0 ∧ (Int32.ofNat k).toNatClampNeg = k := by
  constructor
  · rw [Int32.lt_iff_toInt_lt, own_tn h, show (0 : Int32).toInt = 0 from rfl]; omega
  · rw [Int32.toNatClampNeg, own_tn h]; rfl
theorem own_one (k : Nat) : Int32.ofNat k + Int32.ofInt 1 = Int32.ofNat (k + 1) := (Int32.ofNat_add k 1).symm
theorem own_addn (A k : Nat) : Int32.ofNat (A + k) = Int32.ofNat A + Int32.ofNat k := Int32.ofNat_add A k
theorem own_subn (A i : Nat) : Int32.ofNat (A + i) - Int32.ofNat A = Int32.ofNat i := by
  rw [own_addn, Int32.add_comm, Int32.add_sub_cancel]
theorem own_ltn {i k : Nat} (hi : i < 2147483648) (hk : k < 2147483648) : Int32.ofNat i < Int32.ofNat k ↔ i < k := by
  rw [Int32.lt_iff_toInt_lt, own_tn hi, own_tn hk]; omega
theorem own_nb (x : Int32) : nar .byte x.toInt8.toInt32 = x.toInt8.toInt32 := by simp [nar]
theorem own_ush {x : Int32} (hx : 0 ≤ x.toInt) {n : Int32} {k : Nat} (hn : (n &&& 31).toUInt32.toNat = k) (hk : k < 32) : (XT.ushr x n).toInt = x.toInt / 2 ^ k :=
  Jvm.Kit.i32_iushr (by rw [Int32.le_iff_toInt_le]; exact hx) hn hk
theorem own_ushnn {x : Int32} (hx : 0 ≤ x.toInt) {n : Int32} {k : Nat} (hn : (n &&& 31).toUInt32.toNat = k) (hk : k < 32) : 0 ≤ (XT.ushr x n).toInt := by
  rw [own_ush hx hn hk]; exact Int.ediv_nonneg hx (by exact Int.le_of_lt (Int.pow_pos (by decide)))
theorem own_sh0 {x : Int32} (hx : 0 ≤ x.toInt) : XT.ushr x (0 : Int32) = x := by
  apply Int32.toInt_inj.mp; rw [own_ush hx (n := 0) (k := 0) (by decide) (by decide)]; simp
theorem own_shs {x a b c : Int32} {i j : Nat} (hx : 0 ≤ x.toInt) (ha : (a &&& 31).toUInt32.toNat = i) (hb : (b &&& 31).toUInt32.toNat = j) (hc : (c &&& 31).toUInt32.toNat = i + j) (h : i + j < 32) : XT.ushr (XT.ushr x a) b = XT.ushr x c := by
  apply Int32.toInt_inj.mp
  rw [own_ush (own_ushnn hx ha (by omega)) hb (by omega), own_ush hx ha (by omega), own_ush hx hc h, Int.ediv_ediv_of_nonneg (by exact Int.le_of_lt (Int.pow_pos (by decide))), ← Int.pow_add]
theorem own_bit128 (i : Nat) (h : i < 32) : (-128 : Int32).toBitVec.getLsbD i = decide (7 ≤ i) := by
  have : ∀ i : Fin 32, (-128 : Int32).toBitVec.getLsbD i.val = decide (7 ≤ i.val) := by decide
  exact this ⟨i, h⟩
theorem own_nat {x : Int32} (hx : 0 ≤ x.toInt) : x.toInt = (x.toBitVec.toNat : Int) := by
  have h := BitVec.toInt_eq_toNat_cond x.toBitVec
  have h2 : x.toInt = x.toBitVec.toInt := rfl
  rw [h2] at hx ⊢
  rw [h] at hx ⊢
  have l := x.toBitVec.isLt
  split at hx
  · rw [if_pos (by assumption)]
  · omega
theorem own_lo {x : Int32} (hx : 0 ≤ x.toInt) : (x &&& (-128 : Int32)) = 0 ↔ x.toInt < 128 := by
  rw [own_nat hx]
  constructor
  · intro h
    have hb : x.toBitVec &&& (-128 : Int32).toBitVec = 0#32 := congrArg Int32.toBitVec h
    have lt : x.toBitVec.toNat < 2 ^ 7 := Nat.lt_pow_two_of_testBit _ (fun i hi => by
      by_cases hi2 : i < 32
      · have q := congrArg (fun b => BitVec.getLsbD b i) hb
        simp only [BitVec.getLsbD_and, own_bit128 i hi2] at q
        simpa [hi, BitVec.getLsbD] using q
      · exact Nat.testBit_lt_two_pow (Nat.lt_of_lt_of_le x.toBitVec.isLt (Nat.pow_le_pow_right (by decide) (by omega))))
    omega
  · intro h
    apply Int32.toBitVec_inj.mp
    apply BitVec.eq_of_getLsbD_eq
    intro i hi
    show (x.toBitVec &&& (-128 : Int32).toBitVec).getLsbD i = (0#32).getLsbD i
    rw [BitVec.getLsbD_and, own_bit128 i hi]
    by_cases g : 7 ≤ i
    · have : x.toBitVec.getLsbD i = false := by
        show x.toBitVec.toNat.testBit i = false
        exact Nat.testBit_lt_two_pow (Nat.lt_of_lt_of_le (show x.toBitVec.toNat < 2 ^ 7 by omega) (Nat.pow_le_pow_right (by decide) g))
      simp [this]
    · simp [g]
theorem own_m127 {x : Int32} (hx : 0 ≤ x.toInt) (h : (x &&& (-128 : Int32)) = 0) : (x &&& (127 : Int32)) = x := by
  have e1 : (x &&& 127).toInt = x.toInt % 2 ^ 7 := Jvm.Kit.i32_mask x 127 (k := 7) (by decide) (by decide)
  have q := (own_lo hx).mp h
  exact Int32.toInt_inj.mp (by omega)
def own_len (v : Int32) : Int32 := if v < (128 : Int32) then 1 else if v < (16384 : Int32) then 2 else if v < (2097152 : Int32) then 3 else if v < (268435456 : Int32) then 4 else 5
def own_ex (pos at' n v fl : Int32) : Int32 := if (pos - at') < 0 then fl else if (pos - at') < n then (if (pos - at') < (n - (1 : Int32)) then ((((XT.ushr v ((7 : Int32) * (pos - at'))) &&& (127 : Int32)) ||| (128 : Int32)).toInt8.toInt32) else (((XT.ushr v ((7 : Int32) * (pos - at'))) &&& (127 : Int32)).toInt8.toInt32)) else fl
theorem own_lt5 {v c : Int32} {K : Int} (h : c.toInt = K) : v < c ↔ v.toInt < K := by rw [Int32.lt_iff_toInt_lt, h]
theorem own_lo1 {v : Int32} (hv : 0 ≤ v.toInt) {n : Int32} {k : Nat} (hn : (n &&& 31).toUInt32.toNat = k) (hk : k < 32) : ((XT.ushr v n) &&& (-128 : Int32)) = 0 ↔ v.toInt < 128 * 2 ^ k := by
  rw [own_lo (own_ushnn hv hn hk), own_ush hv hn hk]
  have p : (0 : Int) < 2 ^ k := Int.pow_pos (by decide)
  exact Int.ediv_lt_iff_lt_mul p
theorem own_lenE (v : Int32) : own_len v = if v.toInt < 128 then 1 else if v.toInt < 16384 then 2 else if v.toInt < 2097152 then 3 else if v.toInt < 268435456 then 4 else 5 := by
  simp only [own_len, own_lt5 (c := 128) (K := 128) (by decide), own_lt5 (c := 16384) (K := 16384) (by decide), own_lt5 (c := 2097152) (K := 2097152) (by decide), own_lt5 (c := 268435456) (K := 268435456) (by decide)]
theorem own_len1 {v : Int32} (hv : 0 ≤ v.toInt) (h : (v &&& (-128 : Int32)) = 0) : own_len v = 1 := by
  have q := (own_lo hv).mp h
  rw [own_lenE, if_pos q]
theorem own_len2 {v : Int32} (hv : 0 ≤ v.toInt) (h0 : ¬ (v &&& (-128 : Int32)) = 0) (h1 : ((XT.ushr v (7 : Int32)) &&& (-128 : Int32)) = 0) : own_len v = 2 := by
  rw [own_lo hv] at h0
  rw [own_lo1 hv (k := 7) (by decide) (by decide)] at h1
  rw [own_lenE, if_neg h0, if_pos (by omega)]
theorem own_len3 {v : Int32} (hv : 0 ≤ v.toInt) (h0 : ¬ (v &&& (-128 : Int32)) = 0) (h1 : ¬ ((XT.ushr v (7 : Int32)) &&& (-128 : Int32)) = 0) (h2 : ((XT.ushr v (14 : Int32)) &&& (-128 : Int32)) = 0) : own_len v = 3 := by
  rw [own_lo hv] at h0
  rw [own_lo1 hv (k := 7) (by decide) (by decide)] at h1
  rw [own_lo1 hv (k := 14) (by decide) (by decide)] at h2
  rw [own_lenE, if_neg h0, if_neg (by omega), if_pos (by omega)]
theorem own_len4 {v : Int32} (hv : 0 ≤ v.toInt) (h0 : ¬ (v &&& (-128 : Int32)) = 0) (h1 : ¬ ((XT.ushr v (7 : Int32)) &&& (-128 : Int32)) = 0) (h2 : ¬ ((XT.ushr v (14 : Int32)) &&& (-128 : Int32)) = 0) (h3 : ((XT.ushr v (21 : Int32)) &&& (-128 : Int32)) = 0) : own_len v = 4 := by
  rw [own_lo hv] at h0
  rw [own_lo1 hv (k := 7) (by decide) (by decide)] at h1
  rw [own_lo1 hv (k := 14) (by decide) (by decide)] at h2
  rw [own_lo1 hv (k := 21) (by decide) (by decide)] at h3
  rw [own_lenE, if_neg h0, if_neg (by omega), if_neg (by omega), if_pos (by omega)]
theorem own_z4 {v : Int32} (hv : 0 ≤ v.toInt) : ((XT.ushr v (28 : Int32)) &&& (-128 : Int32)) = 0 := by
  rw [own_lo1 hv (k := 28) (by decide) (by decide)]
  have := Int32.toInt_lt v
  omega
theorem own_len5 {v : Int32} (hv : 0 ≤ v.toInt) (h0 : ¬ (v &&& (-128 : Int32)) = 0) (h1 : ¬ ((XT.ushr v (7 : Int32)) &&& (-128 : Int32)) = 0) (h2 : ¬ ((XT.ushr v (14 : Int32)) &&& (-128 : Int32)) = 0) (h3 : ¬ ((XT.ushr v (21 : Int32)) &&& (-128 : Int32)) = 0) (h4 : ((XT.ushr v (28 : Int32)) &&& (-128 : Int32)) = 0) : own_len v = 5 := by
  rw [own_lo hv] at h0
  rw [own_lo1 hv (k := 7) (by decide) (by decide)] at h1
  rw [own_lo1 hv (k := 14) (by decide) (by decide)] at h2
  rw [own_lo1 hv (k := 21) (by decide) (by decide)] at h3
  rw [own_lenE, if_neg h0, if_neg (by omega), if_neg (by omega), if_neg (by omega)]
/-! the bytes laid one behind the other -/
def own_puts (f : Nat → Value) (A : Nat) : List Value → Nat → Value
  | [] => f
  | b :: r => own_puts (own_upd f A b) (A + 1) r
theorem own_puts_get (d : Value) : ∀ (bs : List Value) (f : Nat → Value) (A j : Nat), own_puts f A bs j = if A ≤ j ∧ j < A + bs.length then bs.getD (j - A) d else f j
  | [], f, A, j => by rw [if_neg (by simp only [List.length_nil]; omega)]; rfl
  | b :: r, f, A, j => by
    show own_puts (own_upd f A b) (A + 1) r j = _
    rw [own_puts_get d r]
    by_cases h : j = A
    · subst h
      rw [if_neg (by omega), if_pos (by simp only [List.length_cons]; omega)]
      simp [own_upd]
    · by_cases g : A + 1 ≤ j ∧ j < A + 1 + r.length
      · rw [if_pos g, if_pos (by simp only [List.length_cons]; omega), show j - A = (j - (A + 1)) + 1 by omega]
        rfl
      · rw [if_neg g, if_neg (by simp only [List.length_cons]; omega)]
        simp [own_upd, h]
theorem own_exat {A i k : Nat} {v fl : Int32} (hA : A < 6) (hi : i < k) (hk : k ≤ 5) : own_ex (Int32.ofNat (A + i)) (Int32.ofNat A) (Int32.ofNat k) v fl = if i + 1 < k then ((((XT.ushr v (Int32.ofNat (7 * i))) &&& (127 : Int32)) ||| (128 : Int32)).toInt8.toInt32) else (((XT.ushr v (Int32.ofNat (7 * i))) &&& (127 : Int32)).toInt8.toInt32) := by
  have e1 : Int32.ofNat k - (1 : Int32) = Int32.ofNat (k - 1) := by
    obtain ⟨q, rfl⟩ : ∃ q, k = 1 + q := ⟨k - 1, by omega⟩
    rw [show 1 + q - 1 = q by omega]
    exact own_subn 1 q
  have e2 : (7 : Int32) * Int32.ofNat i = Int32.ofNat (7 * i) := (Int32.ofNat_mul 7 i).symm
  have n0 := (own_ix (k := i) (by omega)).1
  simp only [own_ex, own_subn, e1, e2]
  rw [if_neg n0, if_pos ((own_ltn (by omega) (by omega)).mpr hi)]
  by_cases h : i + 1 < k
  · rw [if_pos h, if_pos ((own_ltn (by omega) (by omega)).mpr (by omega))]
  · rw [if_neg h, if_neg (fun z => h (by have := (own_ltn (by omega) (by omega)).mp z; omega))]
theorem own_exout {A j k : Nat} {v fl : Int32} (hA : A < 6) (hj : j < 12) (hk : k ≤ 5) (h : ¬ (A ≤ j ∧ j < A + k)) : own_ex (Int32.ofNat j) (Int32.ofNat A) (Int32.ofNat k) v fl = fl := by
  by_cases g : j < A
  · have q : Int32.ofNat j - Int32.ofNat A < 0 := by
      have e : (Int32.ofNat j - Int32.ofNat A).toInt = (j : Int) - A := by
        rw [Jvm.Kit.i32_sub (by rw [own_tn (by omega), own_tn (by omega)]; omega) (by rw [own_tn (by omega), own_tn (by omega)]; omega), own_tn (by omega), own_tn (by omega)]
      rw [Int32.lt_iff_toInt_lt, e, show (0 : Int32).toInt = 0 from rfl]; omega
    simp only [own_ex]; rw [if_pos q]
  · obtain ⟨i, rfl⟩ : ∃ i, j = A + i := ⟨j - A, by omega⟩
    simp only [own_ex, own_subn]
    rw [if_neg (own_ix (k := i) (by omega)).1, if_neg (fun z => h ⟨by omega, by have := (own_ltn (by omega) (by omega)).mp z; omega⟩)]
theorem own_fill {A k : Nat} {v fl : Int32} {f : Nat → Value} {bs : List Value} (hA : A < 6) (hk : k ≤ 5) (hf : ∀ j, j < 12 → f j = .int fl) (hl : bs.length = k)
    (hb : ∀ i, i < k → bs.getD i .null = .int (if i + 1 < k then ((((XT.ushr v (Int32.ofNat (7 * i))) &&& (127 : Int32)) ||| (128 : Int32)).toInt8.toInt32) else (((XT.ushr v (Int32.ofNat (7 * i))) &&& (127 : Int32)).toInt8.toInt32))) :
    ∀ j, j < 12 → own_puts f A bs j = .int (own_ex (Int32.ofNat j) (Int32.ofNat A) (Int32.ofNat k) v fl) := by
  intro j hj
  rw [own_puts_get .null bs f A j, hl]
  by_cases h : A ≤ j ∧ j < A + k
  · obtain ⟨i, rfl⟩ : ∃ i, j = A + i := ⟨j - A, by omega⟩
    rw [if_pos h, show A + i - A = i by omega, hb i (by omega), own_exat hA (by omega) hk]
  · rw [if_neg h, hf j hj, own_exout hA hj hk h]
theorem ef_rm_len (m : MethodId) (p1 : Int32) : entryFrame m #[(.int p1)] 1 = mkF m 0 #[.val (.int p1)] [] := by first | (simp [entryFrame, mkF, argsToLocals, Value.category]; done) | rfl
def K_rm_len  (Z : State) (h0 : Heap) (n0 : Nat) (p1 : Int32) (v : Option Value) (h : Heap) (L : List Loc) : Prop := v = some (.int (own_len p1)) ∧ Fr n0 L ∧ h = h0
theorem d_method_3_code_0 : decode method_3_code 0 = .ok (.iload_n 0, 1) := by decide +kernel
theorem d_method_3_code_1 : decode method_3_code 1 = .ok (.sipush 128, 3) := by decide +kernel
theorem d_method_3_code_4 : decode method_3_code 4 = .ok (.if_icmp .ge 5, 3) := by decide +kernel
theorem d_method_3_code_7 : decode method_3_code 7 = .ok (.iconst 1, 1) := by decide +kernel
theorem d_method_3_code_8 : decode method_3_code 8 = .ok (.ireturn, 1) := by decide +kernel
theorem d_method_3_code_9 : decode method_3_code 9 = .ok (.iload_n 0, 1) := by decide +kernel
theorem d_method_3_code_10 : decode method_3_code 10 = .ok (.sipush 16384, 3) := by decide +kernel
theorem d_method_3_code_13 : decode method_3_code 13 = .ok (.if_icmp .ge 5, 3) := by decide +kernel
theorem d_method_3_code_16 : decode method_3_code 16 = .ok (.iconst 2, 1) := by decide +kernel
theorem d_method_3_code_17 : decode method_3_code 17 = .ok (.ireturn, 1) := by decide +kernel
theorem d_method_3_code_18 : decode method_3_code 18 = .ok (.iload_n 0, 1) := by decide +kernel
theorem d_method_3_code_19 : decode method_3_code 19 = .ok (.ldc 24, 2) := by decide +kernel
theorem d_method_3_code_21 : decode method_3_code 21 = .ok (.if_icmp .ge 5, 3) := by decide +kernel
theorem d_method_3_code_24 : decode method_3_code 24 = .ok (.iconst 3, 1) := by decide +kernel
theorem d_method_3_code_25 : decode method_3_code 25 = .ok (.ireturn, 1) := by decide +kernel
theorem d_method_3_code_26 : decode method_3_code 26 = .ok (.iload_n 0, 1) := by decide +kernel
theorem d_method_3_code_27 : decode method_3_code 27 = .ok (.ldc 25, 2) := by decide +kernel
theorem d_method_3_code_29 : decode method_3_code 29 = .ok (.if_icmp .ge 5, 3) := by decide +kernel
theorem d_method_3_code_32 : decode method_3_code 32 = .ok (.iconst 4, 1) := by decide +kernel
theorem d_method_3_code_33 : decode method_3_code 33 = .ok (.ireturn, 1) := by decide +kernel
theorem d_method_3_code_34 : decode method_3_code 34 = .ok (.iconst 5, 1) := by decide +kernel
theorem d_method_3_code_35 : decode method_3_code 35 = .ok (.ireturn, 1) := by decide +kernel
theorem pn_com_example_shingl_shingl_Leb128WritePinLaw : plainName "com/example/shingl/shingl/Leb128WritePinLaw" = true := by first | (simp [plainName, overriddenIn]; done) | decide +kernel
set_option maxRecDepth 65536 in
set_option maxHeartbeats 40000000 in
theorem rm_len (l : Launch) (Z : State) (a0 : Array Value) (hw : ∀ d ∈ tables_1, d.before a0 Z = true) (ws : List Jvm.Cond)  (p1 : Int32) (h0 : Heap) (n0 : Nat) (Z0 : n0 ≤ h0.size) :
    MetFree l (⟨"com/example/shingl/shingl/Leb128WritePinLaw", "len", "(I)I"⟩ : MethodName) (head1 (Jvm.Cond.code (⟨"com/example/shingl/shingl/Leb128WritePinLaw", "len", "(I)I"⟩ : MethodName) method_3_code 1 (some .int) :: ws) ({ frames := 0, cells := 0, slots := 0, locals := 0 } : Room)) (fun a U => a = #[(.int p1)] ∧ Z.Warmed39 U.vm ∧ U.heap = h0) (fun _ _ _ _ _ => True) (fun _ U o U' => ∃ v L, o = .returned v ∧ (K_rm_len  Z h0 n0 p1) v U'.heap L ∧ FrameEnd U o U' L ({ frames := 0, cells := 0, slots := 0, locals := 0 } : Room).cells ({ frames := 0, cells := 0, slots := 0, locals := 0 } : Room).slots) := by
  refine own_body (plainFor_of_name pn_com_example_shingl_shingl_Leb128WritePinLaw) ?_
  intro p e s m below meth c s₁ hx hby hml hown hnm hret hlk hZ X0 e0
  have hown : s.vm.findClass "com/example/shingl/shingl/Leb128WritePinLaw" = some m.cls := hown
  have N0 := Fr.nil n0
  rw [ef_rm_len m p1]
  refine own_iloadN X0 hx (pc' := 1) rfl (hb hby d_method_3_code_0) rfl ?_
  refine own_sipush X0 hx (v := (128 : Int32)) (pc' := 4) rfl (hb hby d_method_3_code_1) rfl ?_
  by_cases c4_1 : p1 < (128 : Int32)
  · refine own_icmpF X0 hx (pc' := 7) rfl (hb hby d_method_3_code_4) (XT.ii_ge_f c4_1) ?_
    refine own_iconst X0 hx (v := (1 : Int32)) (pc' := 8) rfl (hb hby d_method_3_code_7) rfl ?_
    refine own_iret X0 hx hlk hret (hb hby d_method_3_code_8) (by decide) (by decide) ?_
    rw [e0]
    exact ⟨by first | (simp only [own_len, if_pos c4_1]; done) | (simp only [own_len, if_pos c4_1]; rfl), N0, rfl⟩
  · refine own_icmpT X0 hx (pc' := 9) (hb hby d_method_3_code_4) (XT.ii_ge_t c4_1) (by decide) (by decide) ?_
    refine own_iloadN X0 hx (pc' := 10) rfl (hb hby d_method_3_code_9) rfl ?_
    refine own_sipush X0 hx (v := (16384 : Int32)) (pc' := 13) rfl (hb hby d_method_3_code_10) rfl ?_
    by_cases c13_2 : p1 < (16384 : Int32)
    · refine own_icmpF X0 hx (pc' := 16) rfl (hb hby d_method_3_code_13) (XT.ii_ge_f c13_2) ?_
      refine own_iconst X0 hx (v := (2 : Int32)) (pc' := 17) rfl (hb hby d_method_3_code_16) rfl ?_
      refine own_iret X0 hx hlk hret (hb hby d_method_3_code_17) (by decide) (by decide) ?_
      rw [e0]
      exact ⟨by first | (simp only [own_len, if_neg c4_1, if_pos c13_2]; done) | (simp only [own_len, if_neg c4_1, if_pos c13_2]; rfl), N0, rfl⟩
    · refine own_icmpT X0 hx (pc' := 18) (hb hby d_method_3_code_13) (XT.ii_ge_t c13_2) (by decide) (by decide) ?_
      refine own_iloadN X0 hx (pc' := 19) rfl (hb hby d_method_3_code_18) rfl ?_
      refine own_ldc X0 hx hZ hown (hw _ (List.mem_of_getElem? (i := 16) rfl)) (pc' := 21) rfl (hb hby d_method_3_code_19) ?_
      by_cases c21_3 : p1 < (2097152 : Int32)
      · refine own_icmpF X0 hx (pc' := 24) rfl (hb hby d_method_3_code_21) (XT.ii_ge_f c21_3) ?_
        refine own_iconst X0 hx (v := (3 : Int32)) (pc' := 25) rfl (hb hby d_method_3_code_24) rfl ?_
        refine own_iret X0 hx hlk hret (hb hby d_method_3_code_25) (by decide) (by decide) ?_
        rw [e0]
        exact ⟨by first | (simp only [own_len, if_neg c4_1, if_neg c13_2, if_pos c21_3]; done) | (simp only [own_len, if_neg c4_1, if_neg c13_2, if_pos c21_3]; rfl), N0, rfl⟩
      · refine own_icmpT X0 hx (pc' := 26) (hb hby d_method_3_code_21) (XT.ii_ge_t c21_3) (by decide) (by decide) ?_
        refine own_iloadN X0 hx (pc' := 27) rfl (hb hby d_method_3_code_26) rfl ?_
        refine own_ldc X0 hx hZ hown (hw _ (List.mem_of_getElem? (i := 17) rfl)) (pc' := 29) rfl (hb hby d_method_3_code_27) ?_
        by_cases c29_4 : p1 < (268435456 : Int32)
        · refine own_icmpF X0 hx (pc' := 32) rfl (hb hby d_method_3_code_29) (XT.ii_ge_f c29_4) ?_
          refine own_iconst X0 hx (v := (4 : Int32)) (pc' := 33) rfl (hb hby d_method_3_code_32) rfl ?_
          refine own_iret X0 hx hlk hret (hb hby d_method_3_code_33) (by decide) (by decide) ?_
          rw [e0]
          exact ⟨by first | (simp only [own_len, if_neg c4_1, if_neg c13_2, if_neg c21_3, if_pos c29_4]; done) | (simp only [own_len, if_neg c4_1, if_neg c13_2, if_neg c21_3, if_pos c29_4]; rfl), N0, rfl⟩
        · refine own_icmpT X0 hx (pc' := 34) (hb hby d_method_3_code_29) (XT.ii_ge_t c29_4) (by decide) (by decide) ?_
          refine own_iconst X0 hx (v := (5 : Int32)) (pc' := 35) rfl (hb hby d_method_3_code_34) rfl ?_
          refine own_iret X0 hx hlk hret (hb hby d_method_3_code_35) (by decide) (by decide) ?_
          rw [e0]
          exact ⟨by first | (simp only [own_len, if_neg c4_1, if_neg c13_2, if_neg c21_3, if_neg c29_4]; done) | (simp only [own_len, if_neg c4_1, if_neg c13_2, if_neg c21_3, if_neg c29_4]; rfl), N0, rfl⟩
theorem ef_rm_exp (m : MethodId) (p1 : Int32) (p2 : Int32) (p3 : Int32) (p4 : Int32) (p5 : Int32) : entryFrame m #[(.int p1), (.int p2), (.int p3), (.int p4), (.int p5)] 7 = mkF m 0 #[.val (.int p1), .val (.int p2), .val (.int p3), .val (.int p4), .val (.int p5), .unset, .unset] [] := by first | (simp [entryFrame, mkF, argsToLocals, Value.category]; done) | rfl
def K_rm_exp  (Z : State) (h0 : Heap) (n0 : Nat) (p1 : Int32) (p2 : Int32) (p3 : Int32) (p4 : Int32) (p5 : Int32) (v : Option Value) (h : Heap) (L : List Loc) : Prop := v = some (.int (own_ex p1 p2 p3 p4 p5)) ∧ Fr n0 L ∧ h = h0
theorem d_method_4_code_0 : decode method_4_code 0 = .ok (.iload_n 0, 1) := by decide +kernel
theorem d_method_4_code_1 : decode method_4_code 1 = .ok (.iload_n 1, 1) := by decide +kernel
theorem d_method_4_code_2 : decode method_4_code 2 = .ok (.isub, 1) := by decide +kernel
theorem d_method_4_code_3 : decode method_4_code 3 = .ok (.istore 5, 2) := by decide +kernel
theorem d_method_4_code_5 : decode method_4_code 5 = .ok (.iload 5, 2) := by decide +kernel
theorem d_method_4_code_7 : decode method_4_code 7 = .ok (.ifCond .lt 9, 3) := by decide +kernel
theorem d_method_4_code_16 : decode method_4_code 16 = .ok (.iload 4, 2) := by decide +kernel
theorem d_method_4_code_18 : decode method_4_code 18 = .ok (.ireturn, 1) := by decide +kernel
theorem d_method_4_code_10 : decode method_4_code 10 = .ok (.iload 5, 2) := by decide +kernel
theorem d_method_4_code_12 : decode method_4_code 12 = .ok (.iload_n 2, 1) := by decide +kernel
theorem d_method_4_code_13 : decode method_4_code 13 = .ok (.if_icmp .lt 6, 3) := by decide +kernel
theorem d_method_4_code_19 : decode method_4_code 19 = .ok (.iload_n 3, 1) := by decide +kernel
theorem d_method_4_code_20 : decode method_4_code 20 = .ok (.bipush 7, 2) := by decide +kernel
theorem d_method_4_code_22 : decode method_4_code 22 = .ok (.iload 5, 2) := by decide +kernel
theorem d_method_4_code_24 : decode method_4_code 24 = .ok (.imul, 1) := by decide +kernel
theorem d_method_4_code_25 : decode method_4_code 25 = .ok (.iushr, 1) := by decide +kernel
theorem d_method_4_code_26 : decode method_4_code 26 = .ok (.bipush 127, 2) := by decide +kernel
theorem d_method_4_code_28 : decode method_4_code 28 = .ok (.iand, 1) := by decide +kernel
theorem d_method_4_code_29 : decode method_4_code 29 = .ok (.istore 6, 2) := by decide +kernel
theorem d_method_4_code_31 : decode method_4_code 31 = .ok (.iload 5, 2) := by decide +kernel
theorem d_method_4_code_33 : decode method_4_code 33 = .ok (.iload_n 2, 1) := by decide +kernel
theorem d_method_4_code_34 : decode method_4_code 34 = .ok (.iconst 1, 1) := by decide +kernel
theorem d_method_4_code_35 : decode method_4_code 35 = .ok (.isub, 1) := by decide +kernel
theorem d_method_4_code_36 : decode method_4_code 36 = .ok (.if_icmp .ge 11, 3) := by decide +kernel
theorem d_method_4_code_39 : decode method_4_code 39 = .ok (.iload 6, 2) := by decide +kernel
theorem d_method_4_code_41 : decode method_4_code 41 = .ok (.sipush 128, 3) := by decide +kernel
theorem d_method_4_code_44 : decode method_4_code 44 = .ok (.ior, 1) := by decide +kernel
theorem d_method_4_code_45 : decode method_4_code 45 = .ok (.i2b, 1) := by decide +kernel
theorem d_method_4_code_46 : decode method_4_code 46 = .ok (.ireturn, 1) := by decide +kernel
theorem d_method_4_code_47 : decode method_4_code 47 = .ok (.iload 6, 2) := by decide +kernel
theorem d_method_4_code_49 : decode method_4_code 49 = .ok (.i2b, 1) := by decide +kernel
theorem d_method_4_code_50 : decode method_4_code 50 = .ok (.ireturn, 1) := by decide +kernel
set_option maxRecDepth 65536 in
set_option maxHeartbeats 40000000 in
theorem rm_exp (l : Launch) (Z : State) (a0 : Array Value) (hw : ∀ d ∈ tables_1, d.before a0 Z = true) (ws : List Jvm.Cond)  (p1 : Int32) (p2 : Int32) (p3 : Int32) (p4 : Int32) (p5 : Int32) (h0 : Heap) (n0 : Nat) (Z0 : n0 ≤ h0.size) (hz : nar .byte p5 = p5) :
    MetFree l (⟨"com/example/shingl/shingl/Leb128WritePinLaw", "exp", "(IIIIB)B"⟩ : MethodName) (head1 (Jvm.Cond.code (⟨"com/example/shingl/shingl/Leb128WritePinLaw", "exp", "(IIIIB)B"⟩ : MethodName) method_4_code 7 (some .byte) :: ws) ({ frames := 0, cells := 0, slots := 0, locals := 0 } : Room)) (fun a U => a = #[(.int p1), (.int p2), (.int p3), (.int p4), (.int p5)] ∧ Z.Warmed39 U.vm ∧ U.heap = h0) (fun _ _ _ _ _ => True) (fun _ U o U' => ∃ v L, o = .returned v ∧ (K_rm_exp  Z h0 n0 p1 p2 p3 p4 p5) v U'.heap L ∧ FrameEnd U o U' L ({ frames := 0, cells := 0, slots := 0, locals := 0 } : Room).cells ({ frames := 0, cells := 0, slots := 0, locals := 0 } : Room).slots) := by
  refine own_body (plainFor_of_name pn_com_example_shingl_shingl_Leb128WritePinLaw) ?_
  intro p e s m below meth c s₁ hx hby hml hown hnm hret hlk hZ X0 e0
  have hown : s.vm.findClass "com/example/shingl/shingl/Leb128WritePinLaw" = some m.cls := hown
  have N0 := Fr.nil n0
  rw [ef_rm_exp m p1 p2 p3 p4 p5]
  refine own_iloadN X0 hx (pc' := 1) rfl (hb hby d_method_4_code_0) rfl ?_
  refine own_iloadN X0 hx (pc' := 2) rfl (hb hby d_method_4_code_1) rfl ?_
  refine own_isub X0 hx (v := (p1 - p2)) (pc' := 3) rfl (hb hby d_method_4_code_2) rfl ?_
  refine own_istore X0 hx (Ls' := #[.val (.int p1), .val (.int p2), .val (.int p3), .val (.int p4), .val (.int p5), .val (.int (p1 - p2)), .unset]) (pc' := 5) rfl (hb hby d_method_4_code_3) rfl ?_
  refine own_iload X0 hx (pc' := 7) rfl (hb hby d_method_4_code_5) rfl ?_
  by_cases c7_1 : (p1 - p2) < 0
  · refine own_ifT X0 hx (pc' := 16) (hb hby d_method_4_code_7) (XT.i0_lt_t c7_1) (by decide) (by decide) ?_
    refine own_iload X0 hx (pc' := 18) rfl (hb hby d_method_4_code_16) rfl ?_
    refine own_zret X0 hx hlk hret (by simp) (hb hby d_method_4_code_18) (by decide) (by decide) ?_
    rw [e0]
    exact ⟨by rw [show own_ex p1 p2 p3 p4 p5 = p5 from by simp only [own_ex, if_pos c7_1]]; exact congrArg (fun z => some (Value.int z)) hz, N0, rfl⟩
  · refine own_ifF X0 hx (pc' := 10) rfl (hb hby d_method_4_code_7) (XT.i0_lt_f c7_1) ?_
    refine own_iload X0 hx (pc' := 12) rfl (hb hby d_method_4_code_10) rfl ?_
    refine own_iloadN X0 hx (pc' := 13) rfl (hb hby d_method_4_code_12) rfl ?_
    by_cases c13_2 : (p1 - p2) < p3
    · refine own_icmpT X0 hx (pc' := 19) (hb hby d_method_4_code_13) (XT.ii_lt_t c13_2) (by decide) (by decide) ?_
      refine own_iloadN X0 hx (pc' := 20) rfl (hb hby d_method_4_code_19) rfl ?_
      refine own_bipush X0 hx (v := (7 : Int32)) (pc' := 22) rfl (hb hby d_method_4_code_20) rfl ?_
      refine own_iload X0 hx (pc' := 24) rfl (hb hby d_method_4_code_22) rfl ?_
      refine own_imul X0 hx (v := ((7 : Int32) * (p1 - p2))) (pc' := 25) rfl (hb hby d_method_4_code_24) rfl ?_
      refine own_iushr X0 hx (v := (XT.ushr p4 ((7 : Int32) * (p1 - p2)))) (pc' := 26) rfl (hb hby d_method_4_code_25) rfl ?_
      refine own_bipush X0 hx (v := (127 : Int32)) (pc' := 28) rfl (hb hby d_method_4_code_26) rfl ?_
      refine own_iand X0 hx (v := ((XT.ushr p4 ((7 : Int32) * (p1 - p2))) &&& (127 : Int32))) (pc' := 29) rfl (hb hby d_method_4_code_28) rfl ?_
      refine own_istore X0 hx (Ls' := #[.val (.int p1), .val (.int p2), .val (.int p3), .val (.int p4), .val (.int p5), .val (.int (p1 - p2)), .val (.int ((XT.ushr p4 ((7 : Int32) * (p1 - p2))) &&& (127 : Int32)))]) (pc' := 31) rfl (hb hby d_method_4_code_29) rfl ?_
      refine own_iload X0 hx (pc' := 33) rfl (hb hby d_method_4_code_31) rfl ?_
      refine own_iloadN X0 hx (pc' := 34) rfl (hb hby d_method_4_code_33) rfl ?_
      refine own_iconst X0 hx (v := (1 : Int32)) (pc' := 35) rfl (hb hby d_method_4_code_34) rfl ?_
      refine own_isub X0 hx (v := (p3 - (1 : Int32))) (pc' := 36) rfl (hb hby d_method_4_code_35) rfl ?_
      by_cases c36_3 : (p1 - p2) < (p3 - (1 : Int32))
      · refine own_icmpF X0 hx (pc' := 39) rfl (hb hby d_method_4_code_36) (XT.ii_ge_f c36_3) ?_
        refine own_iload X0 hx (pc' := 41) rfl (hb hby d_method_4_code_39) rfl ?_
        refine own_sipush X0 hx (v := (128 : Int32)) (pc' := 44) rfl (hb hby d_method_4_code_41) rfl ?_
        refine own_ior X0 hx (v := (((XT.ushr p4 ((7 : Int32) * (p1 - p2))) &&& (127 : Int32)) ||| (128 : Int32))) (pc' := 45) rfl (hb hby d_method_4_code_44) rfl ?_
        refine own_i2b X0 hx (v := (((((XT.ushr p4 ((7 : Int32) * (p1 - p2))) &&& (127 : Int32)) ||| (128 : Int32))).toInt8.toInt32)) (pc' := 46) rfl (hb hby d_method_4_code_45) rfl ?_
        refine own_zret X0 hx hlk hret (by simp) (hb hby d_method_4_code_46) (by decide) (by decide) ?_
        rw [e0]
        exact ⟨by rw [show own_ex p1 p2 p3 p4 p5 = (((((XT.ushr p4 ((7 : Int32) * (p1 - p2))) &&& (127 : Int32)) ||| (128 : Int32))).toInt8.toInt32) from by simp only [own_ex, if_neg c7_1, if_pos c13_2, if_pos c36_3]]; exact congrArg (fun z => some (Value.int z)) (own_nb _), N0, rfl⟩
      · refine own_icmpT X0 hx (pc' := 47) (hb hby d_method_4_code_36) (XT.ii_ge_t c36_3) (by decide) (by decide) ?_
        refine own_iload X0 hx (pc' := 49) rfl (hb hby d_method_4_code_47) rfl ?_
        refine own_i2b X0 hx (v := ((((XT.ushr p4 ((7 : Int32) * (p1 - p2))) &&& (127 : Int32))).toInt8.toInt32)) (pc' := 50) rfl (hb hby d_method_4_code_49) rfl ?_
        refine own_zret X0 hx hlk hret (by simp) (hb hby d_method_4_code_50) (by decide) (by decide) ?_
        rw [e0]
        exact ⟨by rw [show own_ex p1 p2 p3 p4 p5 = ((((XT.ushr p4 ((7 : Int32) * (p1 - p2))) &&& (127 : Int32))).toInt8.toInt32) from by simp only [own_ex, if_neg c7_1, if_pos c13_2, if_neg c36_3]]; exact congrArg (fun z => some (Value.int z)) (own_nb _), N0, rfl⟩
    · refine own_icmpF X0 hx (pc' := 16) rfl (hb hby d_method_4_code_13) (XT.ii_lt_f c13_2) ?_
      refine own_iload X0 hx (pc' := 18) rfl (hb hby d_method_4_code_16) rfl ?_
      refine own_zret X0 hx hlk hret (by simp) (hb hby d_method_4_code_18) (by decide) (by decide) ?_
      rw [e0]
      exact ⟨by rw [show own_ex p1 p2 p3 p4 p5 = p5 from by simp only [own_ex, if_neg c7_1, if_neg c13_2]]; exact congrArg (fun z => some (Value.int z)) hz, N0, rfl⟩
theorem ef_rm_ok (m : MethodId) (a1 : Addr) (p2 : Int32) (p3 : Int32) (p4 : Int32) (p5 : Int32) (p6 : Int32) : entryFrame m #[(.ref a1), (.int p2), (.int p3), (.int p4), (.int p5), (.int p6)] 6 = mkF m 0 #[.val (.ref a1), .val (.int p2), .val (.int p3), .val (.int p4), .val (.int p5), .val (.int p6)] [] := by first | (simp [entryFrame, mkF, argsToLocals, Value.category]; done) | rfl
def K_rm_ok (k : Nat) (f1 : Nat → Value) (Z : State) (h0 : Heap) (n0 : Nat) (a1 : Addr) (p2 : Int32) (p3 : Int32) (p4 : Int32) (p5 : Int32) (p6 : Int32) (v : Option Value) (h : Heap) (L : List Loc) : Prop := v = some (.int (1 : Int32)) ∧ Fr n0 L ∧ h = h0
theorem d_method_5_code_0 : decode method_5_code 0 = .ok (.aload_n 0, 1) := by decide +kernel
theorem d_method_5_code_1 : decode method_5_code 1 = .ok (.iload_n 1, 1) := by decide +kernel
theorem d_method_5_code_2 : decode method_5_code 2 = .ok (.baload, 1) := by decide +kernel
theorem d_method_5_code_3 : decode method_5_code 3 = .ok (.iload_n 1, 1) := by decide +kernel
theorem d_method_5_code_4 : decode method_5_code 4 = .ok (.iload_n 2, 1) := by decide +kernel
theorem d_method_5_code_5 : decode method_5_code 5 = .ok (.iload_n 3, 1) := by decide +kernel
theorem d_method_5_code_6 : decode method_5_code 6 = .ok (.iload 4, 2) := by decide +kernel
theorem d_method_5_code_8 : decode method_5_code 8 = .ok (.iload 5, 2) := by decide +kernel
theorem d_method_5_code_10 : decode method_5_code 10 = .ok (.invokestatic 26, 3) := by decide +kernel
theorem pd__IIIIB_B : parseMethodDescriptor "(IIIIB)B" = some ⟨[.int, .int, .int, .int, .byte], some .byte⟩ := by decide +kernel
theorem d_method_5_code_13 : decode method_5_code 13 = .ok (.if_icmp .ne 7, 3) := by decide +kernel
theorem d_method_5_code_16 : decode method_5_code 16 = .ok (.iconst 1, 1) := by decide +kernel
theorem d_method_5_code_17 : decode method_5_code 17 = .ok (.goto 4, 3) := by decide +kernel
theorem d_method_5_code_21 : decode method_5_code 21 = .ok (.ireturn, 1) := by decide +kernel
set_option maxRecDepth 65536 in
set_option maxHeartbeats 40000000 in
theorem rm_ok (l : Launch) (Z : State) (a0 : Array Value) (hw : ∀ d ∈ tables_1, d.before a0 Z = true) (ws : List Jvm.Cond) (k : Nat) (f1 : Nat → Value) (a1 : Addr) (p2 : Int32) (p3 : Int32) (p4 : Int32) (p5 : Int32) (p6 : Int32) (h0 : Heap) (n0 : Nat) (Z0 : n0 ≤ h0.size) (I0 : own_Arr Z h0 a1 .byte 12 f1) (hz : nar .byte p6 = p6) (hk : k < 12) (hk2 : p2 = Int32.ofNat k) (hf : f1 k = .int (own_ex p2 p3 p4 p5 p6)) :
    MetFree l (⟨"com/example/shingl/shingl/Leb128WritePinLaw", "ok", "([BIIIIB)Z"⟩ : MethodName) (head1 (Jvm.Cond.code (⟨"com/example/shingl/shingl/Leb128WritePinLaw", "ok", "([BIIIIB)Z"⟩ : MethodName) method_5_code 6 (some .boolean) :: ws) ({ frames := 1, cells := 0, slots := 0, locals := 19 } : Room)) (fun a U => a = #[(.ref a1), (.int p2), (.int p3), (.int p4), (.int p5), (.int p6)] ∧ Z.Warmed39 U.vm ∧ U.heap = h0) (fun _ _ _ _ _ => True) (fun _ U o U' => ∃ v L, o = .returned v ∧ (K_rm_ok k f1 Z h0 n0 a1 p2 p3 p4 p5 p6) v U'.heap L ∧ FrameEnd U o U' L ({ frames := 1, cells := 0, slots := 0, locals := 19 } : Room).cells ({ frames := 1, cells := 0, slots := 0, locals := 19 } : Room).slots) := by
  refine own_body (plainFor_of_name pn_com_example_shingl_shingl_Leb128WritePinLaw) ?_
  intro p e s m below meth c s₁ hx hby hml hown hnm hret hlk hZ X0 e0
  have hown : s.vm.findClass "com/example/shingl/shingl/Leb128WritePinLaw" = some m.cls := hown
  have N0 := Fr.nil n0
  rw [ef_rm_ok m a1 p2 p3 p4 p5 p6]
  refine own_aloadN X0 hx (pc' := 1) rfl (hb hby d_method_5_code_0) rfl rfl ?_
  refine own_iloadN X0 hx (pc' := 2) rfl (hb hby d_method_5_code_1) rfl ?_
  refine own_ldB X0 hx hZ e0 I0 (k := k) (hk2 ▸ (own_ix (k := k) (by omega)).1) (hk2 ▸ (own_ix (k := k) (by omega)).2) hk (v := (.int (own_ex p2 p3 p4 p5 p6))) hf (pc' := 3) rfl (hb hby d_method_5_code_2) ?_
  refine own_iloadN X0 hx (pc' := 4) rfl (hb hby d_method_5_code_3) rfl ?_
  refine own_iloadN X0 hx (pc' := 5) rfl (hb hby d_method_5_code_4) rfl ?_
  refine own_iloadN X0 hx (pc' := 6) rfl (hb hby d_method_5_code_5) rfl ?_
  refine own_iload X0 hx (pc' := 8) rfl (hb hby d_method_5_code_6) rfl ?_
  refine own_iload X0 hx (pc' := 10) rfl (hb hby d_method_5_code_8) rfl ?_
  refine own_callS X0 hx hZ (y := (⟨"com/example/shingl/shingl/Leb128WritePinLaw", "exp", "(IIIIB)B"⟩ : MethodName)) hown (hw _ (List.mem_of_getElem? (i := 13) rfl)) (hw _ (List.mem_of_getElem? (i := 14) rfl)) (hw _ (List.mem_of_getElem? (i := 8) rfl)) (hw _ (List.mem_of_getElem? (i := 15) rfl))  (by decide) (rm_exp l Z a0 hw [] p2 p3 p4 p5 p6 h0 n0 Z0 hz) (by decide) (W := 1) (by decide) (by decide) (by decide) e0 (by rw [hml]; rfl) (argsL := [(.int p2), (.int p3), (.int p4), (.int p5), (.int p6)]) (rest := [(.int (own_ex p2 p3 p4 p5 p6))]) rfl (lenOf pd__IIIIB_B rfl) rfl (Nat.le_of_eq rfl) (pc' := 13) rfl (hb hby d_method_5_code_10) ?_
  rintro _ T1 L1 X1 ⟨rfl, N1, e1⟩
  have M1 := Fr.app N0 N1
  show own_Goes p e below T1 (mkF m 13 #[.val (.ref a1), .val (.int p2), .val (.int p3), .val (.int p4), .val (.int p5), .val (.int p6)] [(.int (own_ex p2 p3 p4 p5 p6)), (.int (own_ex p2 p3 p4 p5 p6))]) (own_Ret s (K_rm_ok k f1 Z h0 n0 a1 p2 p3 p4 p5 p6) ({ frames := 1, cells := 0, slots := 0, locals := 19 } : Room).cells ({ frames := 1, cells := 0, slots := 0, locals := 19 } : Room).slots)
  refine own_icmpF X1 hx (pc' := 16) rfl (hb hby d_method_5_code_13) (XT.ii_ne_f rfl) ?_
  refine own_iconst X1 hx (v := (1 : Int32)) (pc' := 17) rfl (hb hby d_method_5_code_16) rfl ?_
  refine own_goto X1 hx (pc' := 21) (hb hby d_method_5_code_17) (by decide) (by decide) ?_
  refine own_zret X1 hx hlk hret (by simp) (hb hby d_method_5_code_21) (by decide) (by decide) ?_
  rw [e1]
  exact ⟨rfl, M1, rfl⟩
theorem ef_rm_write (m : MethodId) (a1 : Addr) (p2 : Int32) (p3 : Int32) : entryFrame m #[(.ref a1), (.int p2), (.int p3)] 5 = mkF m 0 #[.val (.ref a1), .val (.int p2), .val (.int p3), .unset, .unset] [] := by first | (simp [entryFrame, mkF, argsToLocals, Value.category]; done) | rfl
def K_rm_write (A : Nat) (f1 : Nat → Value) (fl : Int32) (Z : State) (h0 : Heap) (n0 : Nat) (a1 : Addr) (p2 : Int32) (p3 : Int32) (v : Option Value) (h : Heap) (L : List Loc) : Prop := v = some (.int (p2 + (own_len p3))) ∧ Fr n0 L ∧ Keep h0 h [a1] ∧ own_Arr Z h a1 .byte 12 (fun j => .int (own_ex (Int32.ofNat j) p2 (own_len p3) p3 fl))
theorem d_prog_12_method_3_code_0 : decode prog_12_method_3_code 0 = .ok (.iload_n 1, 1) := by decide +kernel
theorem d_prog_12_method_3_code_1 : decode prog_12_method_3_code 1 = .ok (.istore_n 3, 1) := by decide +kernel
theorem d_prog_12_method_3_code_2 : decode prog_12_method_3_code 2 = .ok (.iload_n 2, 1) := by decide +kernel
theorem d_prog_12_method_3_code_3 : decode prog_12_method_3_code 3 = .ok (.istore 4, 2) := by decide +kernel
theorem d_prog_12_method_3_code_5 : decode prog_12_method_3_code 5 = .ok (.iload 4, 2) := by decide +kernel
theorem d_prog_12_method_3_code_7 : decode prog_12_method_3_code 7 = .ok (.bipush (-128), 2) := by decide +kernel
theorem d_prog_12_method_3_code_9 : decode prog_12_method_3_code 9 = .ok (.iand, 1) := by decide +kernel
theorem d_prog_12_method_3_code_10 : decode prog_12_method_3_code 10 = .ok (.ifCond .eq 29, 3) := by decide +kernel
theorem d_prog_12_method_3_code_39 : decode prog_12_method_3_code 39 = .ok (.aload_n 0, 1) := by decide +kernel
theorem d_prog_12_method_3_code_40 : decode prog_12_method_3_code 40 = .ok (.iload_n 3, 1) := by decide +kernel
theorem d_prog_12_method_3_code_41 : decode prog_12_method_3_code 41 = .ok (.iinc 3 1, 3) := by decide +kernel
theorem d_prog_12_method_3_code_44 : decode prog_12_method_3_code 44 = .ok (.iload 4, 2) := by decide +kernel
theorem d_prog_12_method_3_code_46 : decode prog_12_method_3_code 46 = .ok (.i2b, 1) := by decide +kernel
theorem d_prog_12_method_3_code_47 : decode prog_12_method_3_code 47 = .ok (.bastore, 1) := by decide +kernel
theorem d_prog_12_method_3_code_48 : decode prog_12_method_3_code 48 = .ok (.iload_n 3, 1) := by decide +kernel
theorem d_prog_12_method_3_code_49 : decode prog_12_method_3_code 49 = .ok (.ireturn, 1) := by decide +kernel
theorem d_prog_12_method_3_code_13 : decode prog_12_method_3_code 13 = .ok (.aload_n 0, 1) := by decide +kernel
theorem d_prog_12_method_3_code_14 : decode prog_12_method_3_code 14 = .ok (.iload_n 3, 1) := by decide +kernel
theorem d_prog_12_method_3_code_15 : decode prog_12_method_3_code 15 = .ok (.iinc 3 1, 3) := by decide +kernel
theorem d_prog_12_method_3_code_18 : decode prog_12_method_3_code 18 = .ok (.iload 4, 2) := by decide +kernel
theorem d_prog_12_method_3_code_20 : decode prog_12_method_3_code 20 = .ok (.bipush 127, 2) := by decide +kernel
theorem d_prog_12_method_3_code_22 : decode prog_12_method_3_code 22 = .ok (.iand, 1) := by decide +kernel
theorem d_prog_12_method_3_code_23 : decode prog_12_method_3_code 23 = .ok (.sipush 128, 3) := by decide +kernel
theorem d_prog_12_method_3_code_26 : decode prog_12_method_3_code 26 = .ok (.ior, 1) := by decide +kernel
theorem d_prog_12_method_3_code_27 : decode prog_12_method_3_code 27 = .ok (.i2b, 1) := by decide +kernel
theorem d_prog_12_method_3_code_28 : decode prog_12_method_3_code 28 = .ok (.bastore, 1) := by decide +kernel
theorem d_prog_12_method_3_code_29 : decode prog_12_method_3_code 29 = .ok (.iload 4, 2) := by decide +kernel
theorem d_prog_12_method_3_code_31 : decode prog_12_method_3_code 31 = .ok (.bipush 7, 2) := by decide +kernel
theorem d_prog_12_method_3_code_33 : decode prog_12_method_3_code 33 = .ok (.iushr, 1) := by decide +kernel
theorem d_prog_12_method_3_code_34 : decode prog_12_method_3_code 34 = .ok (.istore 4, 2) := by decide +kernel
theorem d_prog_12_method_3_code_36 : decode prog_12_method_3_code 36 = .ok (.goto (-31), 3) := by decide +kernel
theorem pn_com_example_shingl_shingl_Leb128 : plainName "com/example/shingl/shingl/Leb128" = true := by first | (simp [plainName, overriddenIn]; done) | decide +kernel
set_option maxRecDepth 65536 in
set_option maxHeartbeats 40000000 in
theorem rm_write (l : Launch) (Z : State) (a0 : Array Value) (hw : ∀ d ∈ tables_1, d.before a0 Z = true) (ws : List Jvm.Cond) (A : Nat) (f1 : Nat → Value) (fl : Int32) (a1 : Addr) (p2 : Int32) (p3 : Int32) (h0 : Heap) (n0 : Nat) (Z0 : n0 ≤ h0.size) (I0 : own_Arr Z h0 a1 .byte 12 f1) (ge_a1 : n0 ≤ a1) (hA : p2 = Int32.ofNat A) (hA5 : A < 6) (hv : 0 ≤ p3.toInt) (hf : ∀ j, j < 12 → f1 j = .int fl) :
    MetFree l (⟨"com/example/shingl/shingl/Leb128", "write", "([BII)I"⟩ : MethodName) (head1 (Jvm.Cond.code (⟨"com/example/shingl/shingl/Leb128", "write", "([BII)I"⟩ : MethodName) prog_12_method_3_code 5 (some .int) :: ws) ({ frames := 0, cells := 0, slots := 0, locals := 0 } : Room)) (fun a U => a = #[(.ref a1), (.int p2), (.int p3)] ∧ Z.Warmed39 U.vm ∧ U.heap = h0) (fun _ _ _ _ _ => True) (fun _ U o U' => ∃ v L, o = .returned v ∧ (K_rm_write A f1 fl Z h0 n0 a1 p2 p3) v U'.heap L ∧ FrameEnd U o U' L ({ frames := 0, cells := 0, slots := 0, locals := 0 } : Room).cells ({ frames := 0, cells := 0, slots := 0, locals := 0 } : Room).slots) := by
  refine own_body (plainFor_of_name pn_com_example_shingl_shingl_Leb128) ?_
  intro p e s m below meth c s₁ hx hby hml hown hnm hret hlk hZ X0 e0
  have hown : s.vm.findClass "com/example/shingl/shingl/Leb128" = some m.cls := hown
  have N0 := Fr.nil n0
  rw [ef_rm_write m a1 p2 p3]
  have K0 := Keep.refl h0 [a1]
  subst hA
  refine own_iloadN X0 hx (pc' := 1) rfl (hb hby d_prog_12_method_3_code_0) rfl ?_
  refine own_istoreN X0 hx (Ls' := #[.val (.ref a1), .val (.int (Int32.ofNat A)), .val (.int p3), .val (.int (Int32.ofNat A)), .unset]) (pc' := 2) rfl (hb hby d_prog_12_method_3_code_1) rfl ?_
  refine own_iloadN X0 hx (pc' := 3) rfl (hb hby d_prog_12_method_3_code_2) rfl ?_
  refine own_istore X0 hx (Ls' := #[.val (.ref a1), .val (.int (Int32.ofNat A)), .val (.int p3), .val (.int (Int32.ofNat A)), .val (.int p3)]) (pc' := 5) rfl (hb hby d_prog_12_method_3_code_3) rfl ?_
  refine own_iload X0 hx (pc' := 7) rfl (hb hby d_prog_12_method_3_code_5) rfl ?_
  refine own_bipush X0 hx (v := (-128 : Int32)) (pc' := 9) rfl (hb hby d_prog_12_method_3_code_7) rfl ?_
  refine own_iand X0 hx (v := (p3 &&& (-128 : Int32))) (pc' := 10) rfl (hb hby d_prog_12_method_3_code_9) rfl ?_
  by_cases c10_1 : (p3 &&& (-128 : Int32)) = 0
  · refine own_ifT X0 hx (pc' := 39) (hb hby d_prog_12_method_3_code_10) (XT.i0_eq_t c10_1) (by decide) (by decide) ?_
    refine own_aloadN X0 hx (pc' := 40) rfl (hb hby d_prog_12_method_3_code_39) rfl rfl ?_
    refine own_iloadN X0 hx (pc' := 41) rfl (hb hby d_prog_12_method_3_code_40) rfl ?_
    refine own_iinc X0 hx (v := (Int32.ofNat (A + 1))) (Ls' := #[.val (.ref a1), .val (.int (Int32.ofNat A)), .val (.int p3), .val (.int (Int32.ofNat (A + 1))), .val (.int p3)]) (pc' := 44) rfl (hb hby d_prog_12_method_3_code_41) rfl (own_one _) rfl ?_
    refine own_iload X0 hx (pc' := 46) rfl (hb hby d_prog_12_method_3_code_44) rfl ?_
    refine own_i2b X0 hx (v := ((p3).toInt8.toInt32)) (pc' := 47) rfl (hb hby d_prog_12_method_3_code_46) rfl ?_
    refine own_stB X0 hx hZ e0 I0 (k := A) (own_ix (k := A) (by omega)).1 (own_ix (k := A) (by omega)).2 (by omega) (own_nb _) (pc' := 48) rfl (hb hby d_prog_12_method_3_code_47) ?_
    intro T2 h2 X2 e2 W2 A2
    have Siz_3 := own_sizWr W2 Z0
    have N2 := Fr.snoc X2 N0 ge_a1
    have K2 := Keep.wr K0 W2 (Or.inl (by simp))
    refine own_iloadN X2 hx (pc' := 49) rfl (hb hby d_prog_12_method_3_code_48) rfl ?_
    refine own_iret X2 hx hlk hret (hb hby d_prog_12_method_3_code_49) (by decide) (by decide) ?_
    rw [e2]
    have hl : own_len p3 = (1 : Int32) := own_len1 hv c10_1
    have hm := own_m127 hv c10_1
    have s0 := own_sh0 hv
    have hc := own_fill (A := A) (k := 1) (v := p3) (fl := fl) (f := f1) (bs := [(.int (p3).toInt8.toInt32)]) hA5 (by decide) hf rfl (fun i hi => by
        obtain rfl : i = 0 := by omega
        · rw [if_neg (by decide)]; show _ = Value.int (((XT.ushr p3 (0 : Int32)) &&& (127 : Int32)).toInt8.toInt32); rw [s0]; rw [hm]; rfl)
    refine ⟨?_, N2, K2, own_Arr.congr A2 ?_⟩
    · rw [hl]; exact congrArg (fun z => some (Value.int z)) (own_addn A 1)
    · intro j hj; rw [hl]; exact hc j hj
  · refine own_ifF X0 hx (pc' := 13) rfl (hb hby d_prog_12_method_3_code_10) (XT.i0_eq_f c10_1) ?_
    refine own_aloadN X0 hx (pc' := 14) rfl (hb hby d_prog_12_method_3_code_13) rfl rfl ?_
    refine own_iloadN X0 hx (pc' := 15) rfl (hb hby d_prog_12_method_3_code_14) rfl ?_
    refine own_iinc X0 hx (v := (Int32.ofNat (A + 1))) (Ls' := #[.val (.ref a1), .val (.int (Int32.ofNat A)), .val (.int p3), .val (.int (Int32.ofNat (A + 1))), .val (.int p3)]) (pc' := 18) rfl (hb hby d_prog_12_method_3_code_15) rfl (own_one _) rfl ?_
    refine own_iload X0 hx (pc' := 20) rfl (hb hby d_prog_12_method_3_code_18) rfl ?_
    refine own_bipush X0 hx (v := (127 : Int32)) (pc' := 22) rfl (hb hby d_prog_12_method_3_code_20) rfl ?_
    refine own_iand X0 hx (v := (p3 &&& (127 : Int32))) (pc' := 23) rfl (hb hby d_prog_12_method_3_code_22) rfl ?_
    refine own_sipush X0 hx (v := (128 : Int32)) (pc' := 26) rfl (hb hby d_prog_12_method_3_code_23) rfl ?_
    refine own_ior X0 hx (v := ((p3 &&& (127 : Int32)) ||| (128 : Int32))) (pc' := 27) rfl (hb hby d_prog_12_method_3_code_26) rfl ?_
    refine own_i2b X0 hx (v := ((((p3 &&& (127 : Int32)) ||| (128 : Int32))).toInt8.toInt32)) (pc' := 28) rfl (hb hby d_prog_12_method_3_code_27) rfl ?_
    refine own_stB X0 hx hZ e0 I0 (k := A) (own_ix (k := A) (by omega)).1 (own_ix (k := A) (by omega)).2 (by omega) (own_nb _) (pc' := 29) rfl (hb hby d_prog_12_method_3_code_28) ?_
    intro T5 h5 X5 e5 W5 A5
    have Siz_6 := own_sizWr W5 Z0
    have N5 := Fr.snoc X5 N0 ge_a1
    have K5 := Keep.wr K0 W5 (Or.inl (by simp))
    refine own_iload X5 hx (pc' := 31) rfl (hb hby d_prog_12_method_3_code_29) rfl ?_
    refine own_bipush X5 hx (v := (7 : Int32)) (pc' := 33) rfl (hb hby d_prog_12_method_3_code_31) rfl ?_
    refine own_iushr X5 hx (v := (XT.ushr p3 (7 : Int32))) (pc' := 34) rfl (hb hby d_prog_12_method_3_code_33) rfl ?_
    refine own_istore X5 hx (Ls' := #[.val (.ref a1), .val (.int (Int32.ofNat A)), .val (.int p3), .val (.int (Int32.ofNat (A + 1))), .val (.int (XT.ushr p3 (7 : Int32)))]) (pc' := 36) rfl (hb hby d_prog_12_method_3_code_34) rfl ?_
    refine own_goto X5 hx (pc' := 5) (hb hby d_prog_12_method_3_code_36) (by decide) (by decide) ?_
    refine own_iload X5 hx (pc' := 7) rfl (hb hby d_prog_12_method_3_code_5) rfl ?_
    refine own_bipush X5 hx (v := (-128 : Int32)) (pc' := 9) rfl (hb hby d_prog_12_method_3_code_7) rfl ?_
    refine own_iand X5 hx (v := ((XT.ushr p3 (7 : Int32)) &&& (-128 : Int32))) (pc' := 10) rfl (hb hby d_prog_12_method_3_code_9) rfl ?_
    by_cases c10_8 : ((XT.ushr p3 (7 : Int32)) &&& (-128 : Int32)) = 0
    · refine own_ifT X5 hx (pc' := 39) (hb hby d_prog_12_method_3_code_10) (XT.i0_eq_t c10_8) (by decide) (by decide) ?_
      refine own_aloadN X5 hx (pc' := 40) rfl (hb hby d_prog_12_method_3_code_39) rfl rfl ?_
      refine own_iloadN X5 hx (pc' := 41) rfl (hb hby d_prog_12_method_3_code_40) rfl ?_
      refine own_iinc X5 hx (v := (Int32.ofNat (A + 2))) (Ls' := #[.val (.ref a1), .val (.int (Int32.ofNat A)), .val (.int p3), .val (.int (Int32.ofNat (A + 2))), .val (.int (XT.ushr p3 (7 : Int32)))]) (pc' := 44) rfl (hb hby d_prog_12_method_3_code_41) rfl (own_one _) rfl ?_
      refine own_iload X5 hx (pc' := 46) rfl (hb hby d_prog_12_method_3_code_44) rfl ?_
      refine own_i2b X5 hx (v := (((XT.ushr p3 (7 : Int32))).toInt8.toInt32)) (pc' := 47) rfl (hb hby d_prog_12_method_3_code_46) rfl ?_
      refine own_stB X5 hx hZ e5 A5 (k := (A + 1)) (own_ix (k := (A + 1)) (by omega)).1 (own_ix (k := (A + 1)) (by omega)).2 (by omega) (own_nb _) (pc' := 48) rfl (hb hby d_prog_12_method_3_code_47) ?_
      intro T9 h9 X9 e9 W9 A9
      have Siz_10 := own_sizWr W9 Siz_6
      have N9 := Fr.snoc X9 N5 ge_a1
      have K9 := Keep.wr K5 W9 (Or.inl (by simp))
      refine own_iloadN X9 hx (pc' := 49) rfl (hb hby d_prog_12_method_3_code_48) rfl ?_
      refine own_iret X9 hx hlk hret (hb hby d_prog_12_method_3_code_49) (by decide) (by decide) ?_
      rw [e9]
      have hl : own_len p3 = (2 : Int32) := own_len2 hv c10_1 c10_8
      have hm := own_m127 (own_ushnn hv (n := (7 : Int32)) (k := 7) (by decide) (by decide)) c10_8
      have s0 := own_sh0 hv
      have hc := own_fill (A := A) (k := 2) (v := p3) (fl := fl) (f := f1) (bs := [(.int (((p3 &&& (127 : Int32)) ||| (128 : Int32))).toInt8.toInt32), (.int ((XT.ushr p3 (7 : Int32))).toInt8.toInt32)]) hA5 (by decide) hf rfl (fun i hi => by
          obtain rfl | rfl : i = 0 ∨ i = 1 := by omega
          · rw [if_pos (by decide)]; show _ = Value.int ((((XT.ushr p3 (0 : Int32)) &&& (127 : Int32)) ||| (128 : Int32)).toInt8.toInt32); rw [s0]; rfl
          · rw [if_neg (by decide)]; show _ = Value.int (((XT.ushr p3 (7 : Int32)) &&& (127 : Int32)).toInt8.toInt32); rw [hm]; rfl)
      refine ⟨?_, N9, K9, own_Arr.congr A9 ?_⟩
      · rw [hl]; exact congrArg (fun z => some (Value.int z)) (own_addn A 2)
      · intro j hj; rw [hl]; exact hc j hj
    · refine own_ifF X5 hx (pc' := 13) rfl (hb hby d_prog_12_method_3_code_10) (XT.i0_eq_f c10_8) ?_
      refine own_aloadN X5 hx (pc' := 14) rfl (hb hby d_prog_12_method_3_code_13) rfl rfl ?_
      refine own_iloadN X5 hx (pc' := 15) rfl (hb hby d_prog_12_method_3_code_14) rfl ?_
      refine own_iinc X5 hx (v := (Int32.ofNat (A + 2))) (Ls' := #[.val (.ref a1), .val (.int (Int32.ofNat A)), .val (.int p3), .val (.int (Int32.ofNat (A + 2))), .val (.int (XT.ushr p3 (7 : Int32)))]) (pc' := 18) rfl (hb hby d_prog_12_method_3_code_15) rfl (own_one _) rfl ?_
      refine own_iload X5 hx (pc' := 20) rfl (hb hby d_prog_12_method_3_code_18) rfl ?_
      refine own_bipush X5 hx (v := (127 : Int32)) (pc' := 22) rfl (hb hby d_prog_12_method_3_code_20) rfl ?_
      refine own_iand X5 hx (v := ((XT.ushr p3 (7 : Int32)) &&& (127 : Int32))) (pc' := 23) rfl (hb hby d_prog_12_method_3_code_22) rfl ?_
      refine own_sipush X5 hx (v := (128 : Int32)) (pc' := 26) rfl (hb hby d_prog_12_method_3_code_23) rfl ?_
      refine own_ior X5 hx (v := (((XT.ushr p3 (7 : Int32)) &&& (127 : Int32)) ||| (128 : Int32))) (pc' := 27) rfl (hb hby d_prog_12_method_3_code_26) rfl ?_
      refine own_i2b X5 hx (v := (((((XT.ushr p3 (7 : Int32)) &&& (127 : Int32)) ||| (128 : Int32))).toInt8.toInt32)) (pc' := 28) rfl (hb hby d_prog_12_method_3_code_27) rfl ?_
      refine own_stB X5 hx hZ e5 A5 (k := (A + 1)) (own_ix (k := (A + 1)) (by omega)).1 (own_ix (k := (A + 1)) (by omega)).2 (by omega) (own_nb _) (pc' := 29) rfl (hb hby d_prog_12_method_3_code_28) ?_
      intro T12 h12 X12 e12 W12 A12
      have Siz_13 := own_sizWr W12 Siz_6
      have N12 := Fr.snoc X12 N5 ge_a1
      have K12 := Keep.wr K5 W12 (Or.inl (by simp))
      refine own_iload X12 hx (pc' := 31) rfl (hb hby d_prog_12_method_3_code_29) rfl ?_
      refine own_bipush X12 hx (v := (7 : Int32)) (pc' := 33) rfl (hb hby d_prog_12_method_3_code_31) rfl ?_
      refine own_iushr X12 hx (v := (XT.ushr p3 (14 : Int32))) (pc' := 34) rfl (hb hby d_prog_12_method_3_code_33) (own_shs (i := 7) (j := 7) hv (by decide) (by decide) (by decide) (by decide)) ?_
      refine own_istore X12 hx (Ls' := #[.val (.ref a1), .val (.int (Int32.ofNat A)), .val (.int p3), .val (.int (Int32.ofNat (A + 2))), .val (.int (XT.ushr p3 (14 : Int32)))]) (pc' := 36) rfl (hb hby d_prog_12_method_3_code_34) rfl ?_
      refine own_goto X12 hx (pc' := 5) (hb hby d_prog_12_method_3_code_36) (by decide) (by decide) ?_
      refine own_iload X12 hx (pc' := 7) rfl (hb hby d_prog_12_method_3_code_5) rfl ?_
      refine own_bipush X12 hx (v := (-128 : Int32)) (pc' := 9) rfl (hb hby d_prog_12_method_3_code_7) rfl ?_
      refine own_iand X12 hx (v := ((XT.ushr p3 (14 : Int32)) &&& (-128 : Int32))) (pc' := 10) rfl (hb hby d_prog_12_method_3_code_9) rfl ?_
      by_cases c10_15 : ((XT.ushr p3 (14 : Int32)) &&& (-128 : Int32)) = 0
      · refine own_ifT X12 hx (pc' := 39) (hb hby d_prog_12_method_3_code_10) (XT.i0_eq_t c10_15) (by decide) (by decide) ?_
        refine own_aloadN X12 hx (pc' := 40) rfl (hb hby d_prog_12_method_3_code_39) rfl rfl ?_
        refine own_iloadN X12 hx (pc' := 41) rfl (hb hby d_prog_12_method_3_code_40) rfl ?_
        refine own_iinc X12 hx (v := (Int32.ofNat (A + 3))) (Ls' := #[.val (.ref a1), .val (.int (Int32.ofNat A)), .val (.int p3), .val (.int (Int32.ofNat (A + 3))), .val (.int (XT.ushr p3 (14 : Int32)))]) (pc' := 44) rfl (hb hby d_prog_12_method_3_code_41) rfl (own_one _) rfl ?_
        refine own_iload X12 hx (pc' := 46) rfl (hb hby d_prog_12_method_3_code_44) rfl ?_
        refine own_i2b X12 hx (v := (((XT.ushr p3 (14 : Int32))).toInt8.toInt32)) (pc' := 47) rfl (hb hby d_prog_12_method_3_code_46) rfl ?_
        refine own_stB X12 hx hZ e12 A12 (k := (A + 2)) (own_ix (k := (A + 2)) (by omega)).1 (own_ix (k := (A + 2)) (by omega)).2 (by omega) (own_nb _) (pc' := 48) rfl (hb hby d_prog_12_method_3_code_47) ?_
        intro T16 h16 X16 e16 W16 A16
        have Siz_17 := own_sizWr W16 Siz_13
        have N16 := Fr.snoc X16 N12 ge_a1
        have K16 := Keep.wr K12 W16 (Or.inl (by simp))
        refine own_iloadN X16 hx (pc' := 49) rfl (hb hby d_prog_12_method_3_code_48) rfl ?_
        refine own_iret X16 hx hlk hret (hb hby d_prog_12_method_3_code_49) (by decide) (by decide) ?_
        rw [e16]
        have hl : own_len p3 = (3 : Int32) := own_len3 hv c10_1 c10_8 c10_15
        have hm := own_m127 (own_ushnn hv (n := (14 : Int32)) (k := 14) (by decide) (by decide)) c10_15
        have s0 := own_sh0 hv
        have hc := own_fill (A := A) (k := 3) (v := p3) (fl := fl) (f := f1) (bs := [(.int (((p3 &&& (127 : Int32)) ||| (128 : Int32))).toInt8.toInt32), (.int ((((XT.ushr p3 (7 : Int32)) &&& (127 : Int32)) ||| (128 : Int32))).toInt8.toInt32), (.int ((XT.ushr p3 (14 : Int32))).toInt8.toInt32)]) hA5 (by decide) hf rfl (fun i hi => by
            obtain rfl | rfl | rfl : i = 0 ∨ i = 1 ∨ i = 2 := by omega
            · rw [if_pos (by decide)]; show _ = Value.int ((((XT.ushr p3 (0 : Int32)) &&& (127 : Int32)) ||| (128 : Int32)).toInt8.toInt32); rw [s0]; rfl
            · rw [if_pos (by decide)]; rfl
            · rw [if_neg (by decide)]; show _ = Value.int (((XT.ushr p3 (14 : Int32)) &&& (127 : Int32)).toInt8.toInt32); rw [hm]; rfl)
        refine ⟨?_, N16, K16, own_Arr.congr A16 ?_⟩
        · rw [hl]; exact congrArg (fun z => some (Value.int z)) (own_addn A 3)
        · intro j hj; rw [hl]; exact hc j hj
      · refine own_ifF X12 hx (pc' := 13) rfl (hb hby d_prog_12_method_3_code_10) (XT.i0_eq_f c10_15) ?_
        refine own_aloadN X12 hx (pc' := 14) rfl (hb hby d_prog_12_method_3_code_13) rfl rfl ?_
        refine own_iloadN X12 hx (pc' := 15) rfl (hb hby d_prog_12_method_3_code_14) rfl ?_
        refine own_iinc X12 hx (v := (Int32.ofNat (A + 3))) (Ls' := #[.val (.ref a1), .val (.int (Int32.ofNat A)), .val (.int p3), .val (.int (Int32.ofNat (A + 3))), .val (.int (XT.ushr p3 (14 : Int32)))]) (pc' := 18) rfl (hb hby d_prog_12_method_3_code_15) rfl (own_one _) rfl ?_
        refine own_iload X12 hx (pc' := 20) rfl (hb hby d_prog_12_method_3_code_18) rfl ?_
        refine own_bipush X12 hx (v := (127 : Int32)) (pc' := 22) rfl (hb hby d_prog_12_method_3_code_20) rfl ?_
        refine own_iand X12 hx (v := ((XT.ushr p3 (14 : Int32)) &&& (127 : Int32))) (pc' := 23) rfl (hb hby d_prog_12_method_3_code_22) rfl ?_
        refine own_sipush X12 hx (v := (128 : Int32)) (pc' := 26) rfl (hb hby d_prog_12_method_3_code_23) rfl ?_
        refine own_ior X12 hx (v := (((XT.ushr p3 (14 : Int32)) &&& (127 : Int32)) ||| (128 : Int32))) (pc' := 27) rfl (hb hby d_prog_12_method_3_code_26) rfl ?_
        refine own_i2b X12 hx (v := (((((XT.ushr p3 (14 : Int32)) &&& (127 : Int32)) ||| (128 : Int32))).toInt8.toInt32)) (pc' := 28) rfl (hb hby d_prog_12_method_3_code_27) rfl ?_
        refine own_stB X12 hx hZ e12 A12 (k := (A + 2)) (own_ix (k := (A + 2)) (by omega)).1 (own_ix (k := (A + 2)) (by omega)).2 (by omega) (own_nb _) (pc' := 29) rfl (hb hby d_prog_12_method_3_code_28) ?_
        intro T19 h19 X19 e19 W19 A19
        have Siz_20 := own_sizWr W19 Siz_13
        have N19 := Fr.snoc X19 N12 ge_a1
        have K19 := Keep.wr K12 W19 (Or.inl (by simp))
        refine own_iload X19 hx (pc' := 31) rfl (hb hby d_prog_12_method_3_code_29) rfl ?_
        refine own_bipush X19 hx (v := (7 : Int32)) (pc' := 33) rfl (hb hby d_prog_12_method_3_code_31) rfl ?_
        refine own_iushr X19 hx (v := (XT.ushr p3 (21 : Int32))) (pc' := 34) rfl (hb hby d_prog_12_method_3_code_33) (own_shs (i := 14) (j := 7) hv (by decide) (by decide) (by decide) (by decide)) ?_
        refine own_istore X19 hx (Ls' := #[.val (.ref a1), .val (.int (Int32.ofNat A)), .val (.int p3), .val (.int (Int32.ofNat (A + 3))), .val (.int (XT.ushr p3 (21 : Int32)))]) (pc' := 36) rfl (hb hby d_prog_12_method_3_code_34) rfl ?_
        refine own_goto X19 hx (pc' := 5) (hb hby d_prog_12_method_3_code_36) (by decide) (by decide) ?_
        refine own_iload X19 hx (pc' := 7) rfl (hb hby d_prog_12_method_3_code_5) rfl ?_
        refine own_bipush X19 hx (v := (-128 : Int32)) (pc' := 9) rfl (hb hby d_prog_12_method_3_code_7) rfl ?_
        refine own_iand X19 hx (v := ((XT.ushr p3 (21 : Int32)) &&& (-128 : Int32))) (pc' := 10) rfl (hb hby d_prog_12_method_3_code_9) rfl ?_
        by_cases c10_22 : ((XT.ushr p3 (21 : Int32)) &&& (-128 : Int32)) = 0
        · refine own_ifT X19 hx (pc' := 39) (hb hby d_prog_12_method_3_code_10) (XT.i0_eq_t c10_22) (by decide) (by decide) ?_
          refine own_aloadN X19 hx (pc' := 40) rfl (hb hby d_prog_12_method_3_code_39) rfl rfl ?_
          refine own_iloadN X19 hx (pc' := 41) rfl (hb hby d_prog_12_method_3_code_40) rfl ?_
          refine own_iinc X19 hx (v := (Int32.ofNat (A + 4))) (Ls' := #[.val (.ref a1), .val (.int (Int32.ofNat A)), .val (.int p3), .val (.int (Int32.ofNat (A + 4))), .val (.int (XT.ushr p3 (21 : Int32)))]) (pc' := 44) rfl (hb hby d_prog_12_method_3_code_41) rfl (own_one _) rfl ?_
          refine own_iload X19 hx (pc' := 46) rfl (hb hby d_prog_12_method_3_code_44) rfl ?_
          refine own_i2b X19 hx (v := (((XT.ushr p3 (21 : Int32))).toInt8.toInt32)) (pc' := 47) rfl (hb hby d_prog_12_method_3_code_46) rfl ?_
          refine own_stB X19 hx hZ e19 A19 (k := (A + 3)) (own_ix (k := (A + 3)) (by omega)).1 (own_ix (k := (A + 3)) (by omega)).2 (by omega) (own_nb _) (pc' := 48) rfl (hb hby d_prog_12_method_3_code_47) ?_
          intro T23 h23 X23 e23 W23 A23
          have Siz_24 := own_sizWr W23 Siz_20
          have N23 := Fr.snoc X23 N19 ge_a1
          have K23 := Keep.wr K19 W23 (Or.inl (by simp))
          refine own_iloadN X23 hx (pc' := 49) rfl (hb hby d_prog_12_method_3_code_48) rfl ?_
          refine own_iret X23 hx hlk hret (hb hby d_prog_12_method_3_code_49) (by decide) (by decide) ?_
          rw [e23]
          have hl : own_len p3 = (4 : Int32) := own_len4 hv c10_1 c10_8 c10_15 c10_22
          have hm := own_m127 (own_ushnn hv (n := (21 : Int32)) (k := 21) (by decide) (by decide)) c10_22
          have s0 := own_sh0 hv
          have hc := own_fill (A := A) (k := 4) (v := p3) (fl := fl) (f := f1) (bs := [(.int (((p3 &&& (127 : Int32)) ||| (128 : Int32))).toInt8.toInt32), (.int ((((XT.ushr p3 (7 : Int32)) &&& (127 : Int32)) ||| (128 : Int32))).toInt8.toInt32), (.int ((((XT.ushr p3 (14 : Int32)) &&& (127 : Int32)) ||| (128 : Int32))).toInt8.toInt32), (.int ((XT.ushr p3 (21 : Int32))).toInt8.toInt32)]) hA5 (by decide) hf rfl (fun i hi => by
              obtain rfl | rfl | rfl | rfl : i = 0 ∨ i = 1 ∨ i = 2 ∨ i = 3 := by omega
              · rw [if_pos (by decide)]; show _ = Value.int ((((XT.ushr p3 (0 : Int32)) &&& (127 : Int32)) ||| (128 : Int32)).toInt8.toInt32); rw [s0]; rfl
              · rw [if_pos (by decide)]; rfl
              · rw [if_pos (by decide)]; rfl
              · rw [if_neg (by decide)]; show _ = Value.int (((XT.ushr p3 (21 : Int32)) &&& (127 : Int32)).toInt8.toInt32); rw [hm]; rfl)
          refine ⟨?_, N23, K23, own_Arr.congr A23 ?_⟩
          · rw [hl]; exact congrArg (fun z => some (Value.int z)) (own_addn A 4)
          · intro j hj; rw [hl]; exact hc j hj
        · refine own_ifF X19 hx (pc' := 13) rfl (hb hby d_prog_12_method_3_code_10) (XT.i0_eq_f c10_22) ?_
          refine own_aloadN X19 hx (pc' := 14) rfl (hb hby d_prog_12_method_3_code_13) rfl rfl ?_
          refine own_iloadN X19 hx (pc' := 15) rfl (hb hby d_prog_12_method_3_code_14) rfl ?_
          refine own_iinc X19 hx (v := (Int32.ofNat (A + 4))) (Ls' := #[.val (.ref a1), .val (.int (Int32.ofNat A)), .val (.int p3), .val (.int (Int32.ofNat (A + 4))), .val (.int (XT.ushr p3 (21 : Int32)))]) (pc' := 18) rfl (hb hby d_prog_12_method_3_code_15) rfl (own_one _) rfl ?_
          refine own_iload X19 hx (pc' := 20) rfl (hb hby d_prog_12_method_3_code_18) rfl ?_
          refine own_bipush X19 hx (v := (127 : Int32)) (pc' := 22) rfl (hb hby d_prog_12_method_3_code_20) rfl ?_
          refine own_iand X19 hx (v := ((XT.ushr p3 (21 : Int32)) &&& (127 : Int32))) (pc' := 23) rfl (hb hby d_prog_12_method_3_code_22) rfl ?_
          refine own_sipush X19 hx (v := (128 : Int32)) (pc' := 26) rfl (hb hby d_prog_12_method_3_code_23) rfl ?_
          refine own_ior X19 hx (v := (((XT.ushr p3 (21 : Int32)) &&& (127 : Int32)) ||| (128 : Int32))) (pc' := 27) rfl (hb hby d_prog_12_method_3_code_26) rfl ?_
          refine own_i2b X19 hx (v := (((((XT.ushr p3 (21 : Int32)) &&& (127 : Int32)) ||| (128 : Int32))).toInt8.toInt32)) (pc' := 28) rfl (hb hby d_prog_12_method_3_code_27) rfl ?_
          refine own_stB X19 hx hZ e19 A19 (k := (A + 3)) (own_ix (k := (A + 3)) (by omega)).1 (own_ix (k := (A + 3)) (by omega)).2 (by omega) (own_nb _) (pc' := 29) rfl (hb hby d_prog_12_method_3_code_28) ?_
          intro T26 h26 X26 e26 W26 A26
          have Siz_27 := own_sizWr W26 Siz_20
          have N26 := Fr.snoc X26 N19 ge_a1
          have K26 := Keep.wr K19 W26 (Or.inl (by simp))
          refine own_iload X26 hx (pc' := 31) rfl (hb hby d_prog_12_method_3_code_29) rfl ?_
          refine own_bipush X26 hx (v := (7 : Int32)) (pc' := 33) rfl (hb hby d_prog_12_method_3_code_31) rfl ?_
          refine own_iushr X26 hx (v := (XT.ushr p3 (28 : Int32))) (pc' := 34) rfl (hb hby d_prog_12_method_3_code_33) (own_shs (i := 21) (j := 7) hv (by decide) (by decide) (by decide) (by decide)) ?_
          refine own_istore X26 hx (Ls' := #[.val (.ref a1), .val (.int (Int32.ofNat A)), .val (.int p3), .val (.int (Int32.ofNat (A + 4))), .val (.int (XT.ushr p3 (28 : Int32)))]) (pc' := 36) rfl (hb hby d_prog_12_method_3_code_34) rfl ?_
          refine own_goto X26 hx (pc' := 5) (hb hby d_prog_12_method_3_code_36) (by decide) (by decide) ?_
          refine own_iload X26 hx (pc' := 7) rfl (hb hby d_prog_12_method_3_code_5) rfl ?_
          refine own_bipush X26 hx (v := (-128 : Int32)) (pc' := 9) rfl (hb hby d_prog_12_method_3_code_7) rfl ?_
          refine own_iand X26 hx (v := ((XT.ushr p3 (28 : Int32)) &&& (-128 : Int32))) (pc' := 10) rfl (hb hby d_prog_12_method_3_code_9) rfl ?_
          refine own_ifT X26 hx (pc' := 39) (hb hby d_prog_12_method_3_code_10) (XT.i0_eq_t (own_z4 hv)) (by decide) (by decide) ?_
          refine own_aloadN X26 hx (pc' := 40) rfl (hb hby d_prog_12_method_3_code_39) rfl rfl ?_
          refine own_iloadN X26 hx (pc' := 41) rfl (hb hby d_prog_12_method_3_code_40) rfl ?_
          refine own_iinc X26 hx (v := (Int32.ofNat (A + 5))) (Ls' := #[.val (.ref a1), .val (.int (Int32.ofNat A)), .val (.int p3), .val (.int (Int32.ofNat (A + 5))), .val (.int (XT.ushr p3 (28 : Int32)))]) (pc' := 44) rfl (hb hby d_prog_12_method_3_code_41) rfl (own_one _) rfl ?_
          refine own_iload X26 hx (pc' := 46) rfl (hb hby d_prog_12_method_3_code_44) rfl ?_
          refine own_i2b X26 hx (v := (((XT.ushr p3 (28 : Int32))).toInt8.toInt32)) (pc' := 47) rfl (hb hby d_prog_12_method_3_code_46) rfl ?_
          refine own_stB X26 hx hZ e26 A26 (k := (A + 4)) (own_ix (k := (A + 4)) (by omega)).1 (own_ix (k := (A + 4)) (by omega)).2 (by omega) (own_nb _) (pc' := 48) rfl (hb hby d_prog_12_method_3_code_47) ?_
          intro T29 h29 X29 e29 W29 A29
          have Siz_30 := own_sizWr W29 Siz_27
          have N29 := Fr.snoc X29 N26 ge_a1
          have K29 := Keep.wr K26 W29 (Or.inl (by simp))
          refine own_iloadN X29 hx (pc' := 49) rfl (hb hby d_prog_12_method_3_code_48) rfl ?_
          refine own_iret X29 hx hlk hret (hb hby d_prog_12_method_3_code_49) (by decide) (by decide) ?_
          rw [e29]
          have hl : own_len p3 = (5 : Int32) := own_len5 hv c10_1 c10_8 c10_15 c10_22 (own_z4 hv)
          have hm := own_m127 (own_ushnn hv (n := (28 : Int32)) (k := 28) (by decide) (by decide)) (own_z4 hv)
          have s0 := own_sh0 hv
          have hc := own_fill (A := A) (k := 5) (v := p3) (fl := fl) (f := f1) (bs := [(.int (((p3 &&& (127 : Int32)) ||| (128 : Int32))).toInt8.toInt32), (.int ((((XT.ushr p3 (7 : Int32)) &&& (127 : Int32)) ||| (128 : Int32))).toInt8.toInt32), (.int ((((XT.ushr p3 (14 : Int32)) &&& (127 : Int32)) ||| (128 : Int32))).toInt8.toInt32), (.int ((((XT.ushr p3 (21 : Int32)) &&& (127 : Int32)) ||| (128 : Int32))).toInt8.toInt32), (.int ((XT.ushr p3 (28 : Int32))).toInt8.toInt32)]) hA5 (by decide) hf rfl (fun i hi => by
              obtain rfl | rfl | rfl | rfl | rfl : i = 0 ∨ i = 1 ∨ i = 2 ∨ i = 3 ∨ i = 4 := by omega
              · rw [if_pos (by decide)]; show _ = Value.int ((((XT.ushr p3 (0 : Int32)) &&& (127 : Int32)) ||| (128 : Int32)).toInt8.toInt32); rw [s0]; rfl
              · rw [if_pos (by decide)]; rfl
              · rw [if_pos (by decide)]; rfl
              · rw [if_pos (by decide)]; rfl
              · rw [if_neg (by decide)]; show _ = Value.int (((XT.ushr p3 (28 : Int32)) &&& (127 : Int32)).toInt8.toInt32); rw [hm]; rfl)
          refine ⟨?_, N29, K29, own_Arr.congr A29 ?_⟩
          · rw [hl]; exact congrArg (fun z => some (Value.int z)) (own_addn A 5)
          · intro j hj; rw [hl]; exact hc j hj
theorem own_twelve {f : Nat → Value} {v : Value} (h0 : f 0 = v) (h1 : f 1 = v) (h2 : f 2 = v) (h3 : f 3 = v) (h4 : f 4 = v) (h5 : f 5 = v) (h6 : f 6 = v) (h7 : f 7 = v) (h8 : f 8 = v) (h9 : f 9 = v) (h10 : f 10 = v) (h11 : f 11 = v) : ∀ j, j < 12 → f j = v := by
  intro j hj
  obtain rfl | rfl | rfl | rfl | rfl | rfl | rfl | rfl | rfl | rfl | rfl | rfl : j = 0 ∨ j = 1 ∨ j = 2 ∨ j = 3 ∨ j = 4 ∨ j = 5 ∨ j = 6 ∨ j = 7 ∨ j = 8 ∨ j = 9 ∨ j = 10 ∨ j = 11 := by omega
  all_goals assumption
theorem own_val (v s : Int32) : 0 ≤ (XT.ushr (v &&& (2147483647 : Int32)) ((s &&& (2147483647 : Int32)) % (31 : Int32))).toInt := by
  have e1 : (v &&& 2147483647).toInt = v.toInt % 2 ^ 31 := Jvm.Kit.i32_mask v 2147483647 (k := 31) (by decide) (by decide)
  refine own_ushnn (k := ((((s &&& (2147483647 : Int32)) % (31 : Int32)) &&& 31).toUInt32.toNat)) (by omega) rfl ?_
  have q : (((s &&& (2147483647 : Int32)) % (31 : Int32)) &&& 31).toUInt32.toNat ≤ 31 := by
    show ((((s &&& (2147483647 : Int32)) % (31 : Int32)).toBitVec &&& (31 : Int32).toBitVec).toNat) ≤ 31
    rw [BitVec.toNat_and]; exact Nat.and_le_right
  omega
theorem own_at6 (x : Int32) : ∃ A : Nat, A < 6 ∧ ((x &&& (2147483647 : Int32)) % (6 : Int32)) = Int32.ofNat A := by
  have e1 : (x &&& 2147483647).toInt = x.toInt % 2 ^ 31 := Jvm.Kit.i32_mask x 2147483647 (k := 31) (by decide) (by decide)
  have e2 : ((x &&& 2147483647) % 6).toInt = (x &&& 2147483647).toInt % (6 : Int32).toInt := Jvm.Kit.i32_rem_nonneg (by omega)
  have e3 : (6 : Int32).toInt = 6 := by decide
  rw [e3] at e2
  refine ⟨((x &&& 2147483647) % 6).toInt.toNat, by omega, Int32.toInt_inj.mp ?_⟩
  rw [own_tn (by omega)]; omega
theorem ef_rm_law (m : MethodId) (p1 : Int32) (p2 : Int32) (p3 : Int32) (p4 : Int32) : entryFrame m #[(.int p1), (.int p2), (.int p3), (.int p4)] maxLocals = mkF m 0 #[.val (.int p1), .val (.int p2), .val (.int p3), .val (.int p4), .unset, .unset, .unset, .unset, .unset, .unset] [] := by first | (simp [entryFrame, mkF, argsToLocals, Value.category, maxLocals]; done) | rfl
def K_rm_law  (Z : State) (h0 : Heap) (n0 : Nat) (p1 : Int32) (p2 : Int32) (p3 : Int32) (p4 : Int32) (v : Option Value) (h : Heap) (L : List Loc) : Prop := v = some (.int 1) ∧ Fr n0 L
theorem pd___BII_I : parseMethodDescriptor "([BII)I" = some ⟨[(.array .byte), .int, .int], some .int⟩ := by decide +kernel
theorem pd__I_I : parseMethodDescriptor "(I)I" = some ⟨[.int], some .int⟩ := by decide +kernel
theorem pd___BIIIIB_Z : parseMethodDescriptor "([BIIIIB)Z" = some ⟨[(.array .byte), .int, .int, .int, .int, .byte], some .boolean⟩ := by decide +kernel
set_option maxRecDepth 65536 in
set_option maxHeartbeats 40000000 in
theorem rm_law (l : Launch) (Z : State) (a0 : Array Value) (hw : ∀ d ∈ tables_1, d.before a0 Z = true) (ws : List Jvm.Cond)  (p1 : Int32) (p2 : Int32) (p3 : Int32) (p4 : Int32) (h0 : Heap) (n0 : Nat) (Z0 : n0 ≤ h0.size) :
    MetFree l x (head1 (Jvm.Cond.code x code maxLocals ret :: ws) room_1) (fun a U => a = #[(.int p1), (.int p2), (.int p3), (.int p4)] ∧ Z.Warmed39 U.vm ∧ U.heap = h0) (fun _ _ _ _ _ => True) (fun _ U o U' => ∃ v L, o = .returned v ∧ (K_rm_law  Z h0 n0 p1 p2 p3 p4) v U'.heap L ∧ FrameEnd U o U' L room_1.cells room_1.slots) := by
  refine own_body (plainFor_of_name pn_com_example_shingl_shingl_Leb128WritePinLaw) ?_
  intro p e s m below meth c s₁ hx hby hml hown hnm hret hlk hZ X0 e0
  have hown : s.vm.findClass "com/example/shingl/shingl/Leb128WritePinLaw" = some m.cls := hown
  have N0 := Fr.nil n0
  rw [ef_rm_law m p1 p2 p3 p4]
  refine own_iloadN X0 hx (pc' := 1) rfl (hb hby at_0) rfl ?_
  refine own_ldc X0 hx hZ hown (hw _ (List.mem_of_getElem? (i := 0) rfl)) (pc' := 3) rfl (hb hby at_1) ?_
  refine own_iand X0 hx (v := (p1 &&& (2147483647 : Int32))) (pc' := 4) rfl (hb hby at_3) rfl ?_
  refine own_iloadN X0 hx (pc' := 5) rfl (hb hby at_4) rfl ?_
  refine own_ldc X0 hx hZ hown (hw _ (List.mem_of_getElem? (i := 0) rfl)) (pc' := 7) rfl (hb hby at_5) ?_
  refine own_iand X0 hx (v := (p2 &&& (2147483647 : Int32))) (pc' := 8) rfl (hb hby at_7) rfl ?_
  refine own_bipush X0 hx (v := (31 : Int32)) (pc' := 10) rfl (hb hby at_8) rfl ?_
  refine own_irem X0 hx (v := ((p2 &&& (2147483647 : Int32)) % (31 : Int32))) (pc' := 11) rfl (hb hby at_10) (by decide) rfl ?_
  refine own_iushr X0 hx (v := (XT.ushr (p1 &&& (2147483647 : Int32)) ((p2 &&& (2147483647 : Int32)) % (31 : Int32)))) (pc' := 12) rfl (hb hby at_11) rfl ?_
  have hv := own_val p1 p2
  generalize (XT.ushr (p1 &&& (2147483647 : Int32)) ((p2 &&& (2147483647 : Int32)) % (31 : Int32))) = vl at hv ⊢
  refine own_istore X0 hx (Ls' := #[.val (.int p1), .val (.int p2), .val (.int p3), .val (.int p4), .val (.int vl), .unset, .unset, .unset, .unset, .unset]) (pc' := 14) rfl (hb hby at_12) rfl ?_
  refine own_iloadN X0 hx (pc' := 15) rfl (hb hby at_14) rfl ?_
  refine own_ldc X0 hx hZ hown (hw _ (List.mem_of_getElem? (i := 0) rfl)) (pc' := 17) rfl (hb hby at_15) ?_
  refine own_iand X0 hx (v := (p3 &&& (2147483647 : Int32))) (pc' := 18) rfl (hb hby at_17) rfl ?_
  refine own_bipush X0 hx (v := (6 : Int32)) (pc' := 20) rfl (hb hby at_18) rfl ?_
  refine own_irem X0 hx (v := ((p3 &&& (2147483647 : Int32)) % (6 : Int32))) (pc' := 21) rfl (hb hby at_20) (by decide) rfl ?_
  obtain ⟨A, hA5, eA⟩ := own_at6 p3
  rw [eA]
  refine own_istore X0 hx (Ls' := #[.val (.int p1), .val (.int p2), .val (.int p3), .val (.int p4), .val (.int vl), .val (.int (Int32.ofNat A)), .unset, .unset, .unset, .unset]) (pc' := 23) rfl (hb hby at_21) rfl ?_
  refine own_iloadN X0 hx (pc' := 24) rfl (hb hby at_23) rfl ?_
  refine own_i2b X0 hx (v := ((p4).toInt8.toInt32)) (pc' := 25) rfl (hb hby at_24) rfl ?_
  have hfl : nar .byte ((p4).toInt8.toInt32) = ((p4).toInt8.toInt32) := own_nb p4
  generalize ((p4).toInt8.toInt32) = fl at hfl ⊢
  refine own_istore X0 hx (Ls' := #[.val (.int p1), .val (.int p2), .val (.int p3), .val (.int p4), .val (.int vl), .val (.int (Int32.ofNat A)), .val (.int fl), .unset, .unset, .unset]) (pc' := 27) rfl (hb hby at_25) rfl ?_
  refine own_bipush X0 hx (v := (12 : Int32)) (pc' := 29) rfl (hb hby at_27) rfl ?_
  refine own_newarr X0 hx hZ (aty := .byte) (hw _ (List.mem_of_getElem? (i := 1) rfl)) e0 (pc' := 31) rfl (hb hby at_29) (by decide) (N := 12) (by decide) (cap := 12) (by decide) (by decide) (by decide) (by decide) ?_
  intro T1 h1 X1 e1 E1 A1
  obtain ⟨o1, g1⟩ : ∃ z, z = h0.size := ⟨_, rfl⟩
  rw [← g1] at A1 ⊢
  have ge1 : n0 ≤ o1 := g1 ▸ Z0
  have Siz_2 := Nat.le_trans Z0 E1.1
  refine own_astore X1 hx (Ls' := #[.val (.int p1), .val (.int p2), .val (.int p3), .val (.int p4), .val (.int vl), .val (.int (Int32.ofNat A)), .val (.int fl), .val (.ref o1), .unset, .unset]) (pc' := 33) rfl (hb hby at_31) rfl rfl ?_
  refine own_aload X1 hx (pc' := 35) rfl (hb hby at_33) rfl rfl ?_
  refine own_iconst X1 hx (v := (0 : Int32)) (pc' := 36) rfl (hb hby at_35) rfl ?_
  refine own_iload X1 hx (pc' := 38) rfl (hb hby at_36) rfl ?_
  refine own_stB X1 hx hZ e1 A1 (k := 0) (by decide) (by decide) (by decide) hfl (pc' := 39) rfl (hb hby at_38) ?_
  intro T3 h3 X3 e3 W3 A3
  have Siz_4 := own_sizWr W3 Siz_2
  have N3 := Fr.snoc X3 N0 ge1
  refine own_aload X3 hx (pc' := 41) rfl (hb hby at_39) rfl rfl ?_
  refine own_iconst X3 hx (v := (1 : Int32)) (pc' := 42) rfl (hb hby at_41) rfl ?_
  refine own_iload X3 hx (pc' := 44) rfl (hb hby at_42) rfl ?_
  refine own_stB X3 hx hZ e3 A3 (k := 1) (by decide) (by decide) (by decide) hfl (pc' := 45) rfl (hb hby at_44) ?_
  intro T6 h6 X6 e6 W6 A6
  have Siz_7 := own_sizWr W6 Siz_4
  have N6 := Fr.snoc X6 N3 ge1
  refine own_aload X6 hx (pc' := 47) rfl (hb hby at_45) rfl rfl ?_
  refine own_iconst X6 hx (v := (2 : Int32)) (pc' := 48) rfl (hb hby at_47) rfl ?_
  refine own_iload X6 hx (pc' := 50) rfl (hb hby at_48) rfl ?_
  refine own_stB X6 hx hZ e6 A6 (k := 2) (by decide) (by decide) (by decide) hfl (pc' := 51) rfl (hb hby at_50) ?_
  intro T9 h9 X9 e9 W9 A9
  have Siz_10 := own_sizWr W9 Siz_7
  have N9 := Fr.snoc X9 N6 ge1
  refine own_aload X9 hx (pc' := 53) rfl (hb hby at_51) rfl rfl ?_
  refine own_iconst X9 hx (v := (3 : Int32)) (pc' := 54) rfl (hb hby at_53) rfl ?_
  refine own_iload X9 hx (pc' := 56) rfl (hb hby at_54) rfl ?_
  refine own_stB X9 hx hZ e9 A9 (k := 3) (by decide) (by decide) (by decide) hfl (pc' := 57) rfl (hb hby at_56) ?_
  intro T12 h12 X12 e12 W12 A12
  have Siz_13 := own_sizWr W12 Siz_10
  have N12 := Fr.snoc X12 N9 ge1
  refine own_aload X12 hx (pc' := 59) rfl (hb hby at_57) rfl rfl ?_
  refine own_iconst X12 hx (v := (4 : Int32)) (pc' := 60) rfl (hb hby at_59) rfl ?_
  refine own_iload X12 hx (pc' := 62) rfl (hb hby at_60) rfl ?_
  refine own_stB X12 hx hZ e12 A12 (k := 4) (by decide) (by decide) (by decide) hfl (pc' := 63) rfl (hb hby at_62) ?_
  intro T15 h15 X15 e15 W15 A15
  have Siz_16 := own_sizWr W15 Siz_13
  have N15 := Fr.snoc X15 N12 ge1
  refine own_aload X15 hx (pc' := 65) rfl (hb hby at_63) rfl rfl ?_
  refine own_iconst X15 hx (v := (5 : Int32)) (pc' := 66) rfl (hb hby at_65) rfl ?_
  refine own_iload X15 hx (pc' := 68) rfl (hb hby at_66) rfl ?_
  refine own_stB X15 hx hZ e15 A15 (k := 5) (by decide) (by decide) (by decide) hfl (pc' := 69) rfl (hb hby at_68) ?_
  intro T18 h18 X18 e18 W18 A18
  have Siz_19 := own_sizWr W18 Siz_16
  have N18 := Fr.snoc X18 N15 ge1
  refine own_aload X18 hx (pc' := 71) rfl (hb hby at_69) rfl rfl ?_
  refine own_bipush X18 hx (v := (6 : Int32)) (pc' := 73) rfl (hb hby at_71) rfl ?_
  refine own_iload X18 hx (pc' := 75) rfl (hb hby at_73) rfl ?_
  refine own_stB X18 hx hZ e18 A18 (k := 6) (by decide) (by decide) (by decide) hfl (pc' := 76) rfl (hb hby at_75) ?_
  intro T21 h21 X21 e21 W21 A21
  have Siz_22 := own_sizWr W21 Siz_19
  have N21 := Fr.snoc X21 N18 ge1
  refine own_aload X21 hx (pc' := 78) rfl (hb hby at_76) rfl rfl ?_
  refine own_bipush X21 hx (v := (7 : Int32)) (pc' := 80) rfl (hb hby at_78) rfl ?_
  refine own_iload X21 hx (pc' := 82) rfl (hb hby at_80) rfl ?_
  refine own_stB X21 hx hZ e21 A21 (k := 7) (by decide) (by decide) (by decide) hfl (pc' := 83) rfl (hb hby at_82) ?_
  intro T24 h24 X24 e24 W24 A24
  have Siz_25 := own_sizWr W24 Siz_22
  have N24 := Fr.snoc X24 N21 ge1
  refine own_aload X24 hx (pc' := 85) rfl (hb hby at_83) rfl rfl ?_
  refine own_bipush X24 hx (v := (8 : Int32)) (pc' := 87) rfl (hb hby at_85) rfl ?_
  refine own_iload X24 hx (pc' := 89) rfl (hb hby at_87) rfl ?_
  refine own_stB X24 hx hZ e24 A24 (k := 8) (by decide) (by decide) (by decide) hfl (pc' := 90) rfl (hb hby at_89) ?_
  intro T27 h27 X27 e27 W27 A27
  have Siz_28 := own_sizWr W27 Siz_25
  have N27 := Fr.snoc X27 N24 ge1
  refine own_aload X27 hx (pc' := 92) rfl (hb hby at_90) rfl rfl ?_
  refine own_bipush X27 hx (v := (9 : Int32)) (pc' := 94) rfl (hb hby at_92) rfl ?_
  refine own_iload X27 hx (pc' := 96) rfl (hb hby at_94) rfl ?_
  refine own_stB X27 hx hZ e27 A27 (k := 9) (by decide) (by decide) (by decide) hfl (pc' := 97) rfl (hb hby at_96) ?_
  intro T30 h30 X30 e30 W30 A30
  have Siz_31 := own_sizWr W30 Siz_28
  have N30 := Fr.snoc X30 N27 ge1
  refine own_aload X30 hx (pc' := 99) rfl (hb hby at_97) rfl rfl ?_
  refine own_bipush X30 hx (v := (10 : Int32)) (pc' := 101) rfl (hb hby at_99) rfl ?_
  refine own_iload X30 hx (pc' := 103) rfl (hb hby at_101) rfl ?_
  refine own_stB X30 hx hZ e30 A30 (k := 10) (by decide) (by decide) (by decide) hfl (pc' := 104) rfl (hb hby at_103) ?_
  intro T33 h33 X33 e33 W33 A33
  have Siz_34 := own_sizWr W33 Siz_31
  have N33 := Fr.snoc X33 N30 ge1
  refine own_aload X33 hx (pc' := 106) rfl (hb hby at_104) rfl rfl ?_
  refine own_bipush X33 hx (v := (11 : Int32)) (pc' := 108) rfl (hb hby at_106) rfl ?_
  refine own_iload X33 hx (pc' := 110) rfl (hb hby at_108) rfl ?_
  refine own_stB X33 hx hZ e33 A33 (k := 11) (by decide) (by decide) (by decide) hfl (pc' := 111) rfl (hb hby at_110) ?_
  intro T36 h36 X36 e36 W36 A36
  have Siz_37 := own_sizWr W36 Siz_34
  have N36 := Fr.snoc X36 N33 ge1
  refine own_aload X36 hx (pc' := 113) rfl (hb hby at_111) rfl rfl ?_
  refine own_iload X36 hx (pc' := 115) rfl (hb hby at_113) rfl ?_
  refine own_iload X36 hx (pc' := 117) rfl (hb hby at_115) rfl ?_
  refine own_callS X36 hx hZ (y := (⟨"com/example/shingl/shingl/Leb128", "write", "([BII)I"⟩ : MethodName)) hown (hw _ (List.mem_of_getElem? (i := 2) rfl)) (hw _ (List.mem_of_getElem? (i := 3) rfl)) (hw _ (List.mem_of_getElem? (i := 4) rfl)) (hw _ (List.mem_of_getElem? (i := 5) rfl))  (by decide) (rm_write l Z a0 hw [] A (own_upd (own_upd (own_upd (own_upd (own_upd (own_upd (own_upd (own_upd (own_upd (own_upd (own_upd (own_upd (fun _ => (.int (0 : Int32))) 0 (.int fl)) 1 (.int fl)) 2 (.int fl)) 3 (.int fl)) 4 (.int fl)) 5 (.int fl)) 6 (.int fl)) 7 (.int fl)) 8 (.int fl)) 9 (.int fl)) 10 (.int fl)) 11 (.int fl)) fl o1 (Int32.ofNat A) vl h36 n0 Siz_37 A36 ge1 rfl hA5 hv (own_twelve rfl rfl rfl rfl rfl rfl rfl rfl rfl rfl rfl rfl)) (by decide) (W := 0) (by decide) (by decide) (by decide) e36 (by rw [hml]; rfl) (argsL := [(.ref o1), (.int (Int32.ofNat A)), (.int vl)]) (rest := []) rfl (lenOf pd___BII_I rfl) rfl (Nat.le_of_eq rfl) (pc' := 120) rfl (hb hby at_117) ?_
  rintro _ T39 L39 X39 ⟨rfl, N39, K39, G39_0⟩
  have M39 := Fr.app N36 N39
  obtain ⟨h39, e39⟩ : ∃ z, T39.heap = z := ⟨_, rfl⟩
  rw [e39] at K39 G39_0
  have Siz_40 := Nat.le_trans Siz_37 K39.1
  show own_Goes p e below T39 (mkF m 120 #[.val (.int p1), .val (.int p2), .val (.int p3), .val (.int p4), .val (.int vl), .val (.int (Int32.ofNat A)), .val (.int fl), .val (.ref o1), .unset, .unset] [(.int ((Int32.ofNat A) + (own_len vl)))]) (own_Ret s (K_rm_law  Z h0 n0 p1 p2 p3 p4) room_1.cells room_1.slots)
  refine own_istore X39 hx (Ls' := #[.val (.int p1), .val (.int p2), .val (.int p3), .val (.int p4), .val (.int vl), .val (.int (Int32.ofNat A)), .val (.int fl), .val (.ref o1), .val (.int ((Int32.ofNat A) + (own_len vl))), .unset]) (pc' := 122) rfl (hb hby at_120) rfl ?_
  refine own_iload X39 hx (pc' := 124) rfl (hb hby at_122) rfl ?_
  refine own_callS X39 hx hZ (y := (⟨"com/example/shingl/shingl/Leb128WritePinLaw", "len", "(I)I"⟩ : MethodName)) hown (hw _ (List.mem_of_getElem? (i := 6) rfl)) (hw _ (List.mem_of_getElem? (i := 7) rfl)) (hw _ (List.mem_of_getElem? (i := 8) rfl)) (hw _ (List.mem_of_getElem? (i := 9) rfl))  (by decide) (rm_len l Z a0 hw [] vl h39 n0 Siz_40) (by decide) (W := 0) (by decide) (by decide) (by decide) e39 (by rw [hml]; rfl) (argsL := [(.int vl)]) (rest := []) rfl (lenOf pd__I_I rfl) rfl (Nat.le_of_eq rfl) (pc' := 127) rfl (hb hby at_124) ?_
  rintro _ T42 L42 X42 ⟨rfl, N42, e42⟩
  have M42 := Fr.app M39 N42
  show own_Goes p e below T42 (mkF m 127 #[.val (.int p1), .val (.int p2), .val (.int p3), .val (.int p4), .val (.int vl), .val (.int (Int32.ofNat A)), .val (.int fl), .val (.ref o1), .val (.int ((Int32.ofNat A) + (own_len vl))), .unset] [(.int (own_len vl))]) (own_Ret s (K_rm_law  Z h0 n0 p1 p2 p3 p4) room_1.cells room_1.slots)
  refine own_istore X42 hx (Ls' := #[.val (.int p1), .val (.int p2), .val (.int p3), .val (.int p4), .val (.int vl), .val (.int (Int32.ofNat A)), .val (.int fl), .val (.ref o1), .val (.int ((Int32.ofNat A) + (own_len vl))), .val (.int (own_len vl))]) (pc' := 129) rfl (hb hby at_127) rfl ?_
  refine own_iload X42 hx (pc' := 131) rfl (hb hby at_129) rfl ?_
  refine own_iload X42 hx (pc' := 133) rfl (hb hby at_131) rfl ?_
  refine own_iload X42 hx (pc' := 135) rfl (hb hby at_133) rfl ?_
  refine own_iadd X42 hx (v := ((Int32.ofNat A) + (own_len vl))) (pc' := 136) rfl (hb hby at_135) rfl ?_
  refine own_icmpT X42 hx (pc' := 141) (hb hby at_136) (XT.ii_eq_t rfl) (by decide) (by decide) ?_
  refine own_aload X42 hx (pc' := 143) rfl (hb hby at_141) rfl rfl ?_
  refine own_iconst X42 hx (v := (0 : Int32)) (pc' := 144) rfl (hb hby at_143) rfl ?_
  refine own_iload X42 hx (pc' := 146) rfl (hb hby at_144) rfl ?_
  refine own_iload X42 hx (pc' := 148) rfl (hb hby at_146) rfl ?_
  refine own_iload X42 hx (pc' := 150) rfl (hb hby at_148) rfl ?_
  refine own_iload X42 hx (pc' := 152) rfl (hb hby at_150) rfl ?_
  refine own_callS X42 hx hZ (y := (⟨"com/example/shingl/shingl/Leb128WritePinLaw", "ok", "([BIIIIB)Z"⟩ : MethodName)) hown (hw _ (List.mem_of_getElem? (i := 10) rfl)) (hw _ (List.mem_of_getElem? (i := 11) rfl)) (hw _ (List.mem_of_getElem? (i := 8) rfl)) (hw _ (List.mem_of_getElem? (i := 12) rfl))  (by decide) (rm_ok l Z a0 hw [] 0 (fun j => .int (own_ex (Int32.ofNat j) (Int32.ofNat A) (own_len vl) vl fl)) o1 (0 : Int32) (Int32.ofNat A) (own_len vl) vl fl h39 n0 Siz_40 G39_0 hfl (by decide) rfl rfl) (by decide) (W := 0) (by decide) (by decide) (by decide) e42 (by rw [hml]; rfl) (argsL := [(.ref o1), (.int (0 : Int32)), (.int (Int32.ofNat A)), (.int (own_len vl)), (.int vl), (.int fl)]) (rest := []) rfl (lenOf pd___BIIIIB_Z rfl) rfl (Nat.le_of_eq rfl) (pc' := 155) rfl (hb hby at_152) ?_
  rintro _ T43 L43 X43 ⟨rfl, N43, e43⟩
  have M43 := Fr.app M42 N43
  show own_Goes p e below T43 (mkF m 155 #[.val (.int p1), .val (.int p2), .val (.int p3), .val (.int p4), .val (.int vl), .val (.int (Int32.ofNat A)), .val (.int fl), .val (.ref o1), .val (.int ((Int32.ofNat A) + (own_len vl))), .val (.int (own_len vl))] [(.int (1 : Int32))]) (own_Ret s (K_rm_law  Z h0 n0 p1 p2 p3 p4) room_1.cells room_1.slots)
  refine own_ifF X43 hx (pc' := 158) rfl (hb hby at_155) (XT.i0_eq_f (by decide)) ?_
  refine own_aload X43 hx (pc' := 160) rfl (hb hby at_158) rfl rfl ?_
  refine own_iconst X43 hx (v := (1 : Int32)) (pc' := 161) rfl (hb hby at_160) rfl ?_
  refine own_iload X43 hx (pc' := 163) rfl (hb hby at_161) rfl ?_
  refine own_iload X43 hx (pc' := 165) rfl (hb hby at_163) rfl ?_
  refine own_iload X43 hx (pc' := 167) rfl (hb hby at_165) rfl ?_
  refine own_iload X43 hx (pc' := 169) rfl (hb hby at_167) rfl ?_
  refine own_callS X43 hx hZ (y := (⟨"com/example/shingl/shingl/Leb128WritePinLaw", "ok", "([BIIIIB)Z"⟩ : MethodName)) hown (hw _ (List.mem_of_getElem? (i := 10) rfl)) (hw _ (List.mem_of_getElem? (i := 11) rfl)) (hw _ (List.mem_of_getElem? (i := 8) rfl)) (hw _ (List.mem_of_getElem? (i := 12) rfl))  (by decide) (rm_ok l Z a0 hw [] 1 (fun j => .int (own_ex (Int32.ofNat j) (Int32.ofNat A) (own_len vl) vl fl)) o1 (1 : Int32) (Int32.ofNat A) (own_len vl) vl fl h39 n0 Siz_40 G39_0 hfl (by decide) rfl rfl) (by decide) (W := 0) (by decide) (by decide) (by decide) e43 (by rw [hml]; rfl) (argsL := [(.ref o1), (.int (1 : Int32)), (.int (Int32.ofNat A)), (.int (own_len vl)), (.int vl), (.int fl)]) (rest := []) rfl (lenOf pd___BIIIIB_Z rfl) rfl (Nat.le_of_eq rfl) (pc' := 172) rfl (hb hby at_169) ?_
  rintro _ T44 L44 X44 ⟨rfl, N44, e44⟩
  have M44 := Fr.app M43 N44
  show own_Goes p e below T44 (mkF m 172 #[.val (.int p1), .val (.int p2), .val (.int p3), .val (.int p4), .val (.int vl), .val (.int (Int32.ofNat A)), .val (.int fl), .val (.ref o1), .val (.int ((Int32.ofNat A) + (own_len vl))), .val (.int (own_len vl))] [(.int (1 : Int32))]) (own_Ret s (K_rm_law  Z h0 n0 p1 p2 p3 p4) room_1.cells room_1.slots)
  refine own_ifF X44 hx (pc' := 175) rfl (hb hby at_172) (XT.i0_eq_f (by decide)) ?_
  refine own_aload X44 hx (pc' := 177) rfl (hb hby at_175) rfl rfl ?_
  refine own_iconst X44 hx (v := (2 : Int32)) (pc' := 178) rfl (hb hby at_177) rfl ?_
  refine own_iload X44 hx (pc' := 180) rfl (hb hby at_178) rfl ?_
  refine own_iload X44 hx (pc' := 182) rfl (hb hby at_180) rfl ?_
  refine own_iload X44 hx (pc' := 184) rfl (hb hby at_182) rfl ?_
  refine own_iload X44 hx (pc' := 186) rfl (hb hby at_184) rfl ?_
  refine own_callS X44 hx hZ (y := (⟨"com/example/shingl/shingl/Leb128WritePinLaw", "ok", "([BIIIIB)Z"⟩ : MethodName)) hown (hw _ (List.mem_of_getElem? (i := 10) rfl)) (hw _ (List.mem_of_getElem? (i := 11) rfl)) (hw _ (List.mem_of_getElem? (i := 8) rfl)) (hw _ (List.mem_of_getElem? (i := 12) rfl))  (by decide) (rm_ok l Z a0 hw [] 2 (fun j => .int (own_ex (Int32.ofNat j) (Int32.ofNat A) (own_len vl) vl fl)) o1 (2 : Int32) (Int32.ofNat A) (own_len vl) vl fl h39 n0 Siz_40 G39_0 hfl (by decide) rfl rfl) (by decide) (W := 0) (by decide) (by decide) (by decide) e44 (by rw [hml]; rfl) (argsL := [(.ref o1), (.int (2 : Int32)), (.int (Int32.ofNat A)), (.int (own_len vl)), (.int vl), (.int fl)]) (rest := []) rfl (lenOf pd___BIIIIB_Z rfl) rfl (Nat.le_of_eq rfl) (pc' := 189) rfl (hb hby at_186) ?_
  rintro _ T45 L45 X45 ⟨rfl, N45, e45⟩
  have M45 := Fr.app M44 N45
  show own_Goes p e below T45 (mkF m 189 #[.val (.int p1), .val (.int p2), .val (.int p3), .val (.int p4), .val (.int vl), .val (.int (Int32.ofNat A)), .val (.int fl), .val (.ref o1), .val (.int ((Int32.ofNat A) + (own_len vl))), .val (.int (own_len vl))] [(.int (1 : Int32))]) (own_Ret s (K_rm_law  Z h0 n0 p1 p2 p3 p4) room_1.cells room_1.slots)
  refine own_ifF X45 hx (pc' := 192) rfl (hb hby at_189) (XT.i0_eq_f (by decide)) ?_
  refine own_aload X45 hx (pc' := 194) rfl (hb hby at_192) rfl rfl ?_
  refine own_iconst X45 hx (v := (3 : Int32)) (pc' := 195) rfl (hb hby at_194) rfl ?_
  refine own_iload X45 hx (pc' := 197) rfl (hb hby at_195) rfl ?_
  refine own_iload X45 hx (pc' := 199) rfl (hb hby at_197) rfl ?_
  refine own_iload X45 hx (pc' := 201) rfl (hb hby at_199) rfl ?_
  refine own_iload X45 hx (pc' := 203) rfl (hb hby at_201) rfl ?_
  refine own_callS X45 hx hZ (y := (⟨"com/example/shingl/shingl/Leb128WritePinLaw", "ok", "([BIIIIB)Z"⟩ : MethodName)) hown (hw _ (List.mem_of_getElem? (i := 10) rfl)) (hw _ (List.mem_of_getElem? (i := 11) rfl)) (hw _ (List.mem_of_getElem? (i := 8) rfl)) (hw _ (List.mem_of_getElem? (i := 12) rfl))  (by decide) (rm_ok l Z a0 hw [] 3 (fun j => .int (own_ex (Int32.ofNat j) (Int32.ofNat A) (own_len vl) vl fl)) o1 (3 : Int32) (Int32.ofNat A) (own_len vl) vl fl h39 n0 Siz_40 G39_0 hfl (by decide) rfl rfl) (by decide) (W := 0) (by decide) (by decide) (by decide) e45 (by rw [hml]; rfl) (argsL := [(.ref o1), (.int (3 : Int32)), (.int (Int32.ofNat A)), (.int (own_len vl)), (.int vl), (.int fl)]) (rest := []) rfl (lenOf pd___BIIIIB_Z rfl) rfl (Nat.le_of_eq rfl) (pc' := 206) rfl (hb hby at_203) ?_
  rintro _ T46 L46 X46 ⟨rfl, N46, e46⟩
  have M46 := Fr.app M45 N46
  show own_Goes p e below T46 (mkF m 206 #[.val (.int p1), .val (.int p2), .val (.int p3), .val (.int p4), .val (.int vl), .val (.int (Int32.ofNat A)), .val (.int fl), .val (.ref o1), .val (.int ((Int32.ofNat A) + (own_len vl))), .val (.int (own_len vl))] [(.int (1 : Int32))]) (own_Ret s (K_rm_law  Z h0 n0 p1 p2 p3 p4) room_1.cells room_1.slots)
  refine own_ifF X46 hx (pc' := 209) rfl (hb hby at_206) (XT.i0_eq_f (by decide)) ?_
  refine own_aload X46 hx (pc' := 211) rfl (hb hby at_209) rfl rfl ?_
  refine own_iconst X46 hx (v := (4 : Int32)) (pc' := 212) rfl (hb hby at_211) rfl ?_
  refine own_iload X46 hx (pc' := 214) rfl (hb hby at_212) rfl ?_
  refine own_iload X46 hx (pc' := 216) rfl (hb hby at_214) rfl ?_
  refine own_iload X46 hx (pc' := 218) rfl (hb hby at_216) rfl ?_
  refine own_iload X46 hx (pc' := 220) rfl (hb hby at_218) rfl ?_
  refine own_callS X46 hx hZ (y := (⟨"com/example/shingl/shingl/Leb128WritePinLaw", "ok", "([BIIIIB)Z"⟩ : MethodName)) hown (hw _ (List.mem_of_getElem? (i := 10) rfl)) (hw _ (List.mem_of_getElem? (i := 11) rfl)) (hw _ (List.mem_of_getElem? (i := 8) rfl)) (hw _ (List.mem_of_getElem? (i := 12) rfl))  (by decide) (rm_ok l Z a0 hw [] 4 (fun j => .int (own_ex (Int32.ofNat j) (Int32.ofNat A) (own_len vl) vl fl)) o1 (4 : Int32) (Int32.ofNat A) (own_len vl) vl fl h39 n0 Siz_40 G39_0 hfl (by decide) rfl rfl) (by decide) (W := 0) (by decide) (by decide) (by decide) e46 (by rw [hml]; rfl) (argsL := [(.ref o1), (.int (4 : Int32)), (.int (Int32.ofNat A)), (.int (own_len vl)), (.int vl), (.int fl)]) (rest := []) rfl (lenOf pd___BIIIIB_Z rfl) rfl (Nat.le_of_eq rfl) (pc' := 223) rfl (hb hby at_220) ?_
  rintro _ T47 L47 X47 ⟨rfl, N47, e47⟩
  have M47 := Fr.app M46 N47
  show own_Goes p e below T47 (mkF m 223 #[.val (.int p1), .val (.int p2), .val (.int p3), .val (.int p4), .val (.int vl), .val (.int (Int32.ofNat A)), .val (.int fl), .val (.ref o1), .val (.int ((Int32.ofNat A) + (own_len vl))), .val (.int (own_len vl))] [(.int (1 : Int32))]) (own_Ret s (K_rm_law  Z h0 n0 p1 p2 p3 p4) room_1.cells room_1.slots)
  refine own_ifF X47 hx (pc' := 226) rfl (hb hby at_223) (XT.i0_eq_f (by decide)) ?_
  refine own_aload X47 hx (pc' := 228) rfl (hb hby at_226) rfl rfl ?_
  refine own_iconst X47 hx (v := (5 : Int32)) (pc' := 229) rfl (hb hby at_228) rfl ?_
  refine own_iload X47 hx (pc' := 231) rfl (hb hby at_229) rfl ?_
  refine own_iload X47 hx (pc' := 233) rfl (hb hby at_231) rfl ?_
  refine own_iload X47 hx (pc' := 235) rfl (hb hby at_233) rfl ?_
  refine own_iload X47 hx (pc' := 237) rfl (hb hby at_235) rfl ?_
  refine own_callS X47 hx hZ (y := (⟨"com/example/shingl/shingl/Leb128WritePinLaw", "ok", "([BIIIIB)Z"⟩ : MethodName)) hown (hw _ (List.mem_of_getElem? (i := 10) rfl)) (hw _ (List.mem_of_getElem? (i := 11) rfl)) (hw _ (List.mem_of_getElem? (i := 8) rfl)) (hw _ (List.mem_of_getElem? (i := 12) rfl))  (by decide) (rm_ok l Z a0 hw [] 5 (fun j => .int (own_ex (Int32.ofNat j) (Int32.ofNat A) (own_len vl) vl fl)) o1 (5 : Int32) (Int32.ofNat A) (own_len vl) vl fl h39 n0 Siz_40 G39_0 hfl (by decide) rfl rfl) (by decide) (W := 0) (by decide) (by decide) (by decide) e47 (by rw [hml]; rfl) (argsL := [(.ref o1), (.int (5 : Int32)), (.int (Int32.ofNat A)), (.int (own_len vl)), (.int vl), (.int fl)]) (rest := []) rfl (lenOf pd___BIIIIB_Z rfl) rfl (Nat.le_of_eq rfl) (pc' := 240) rfl (hb hby at_237) ?_
  rintro _ T48 L48 X48 ⟨rfl, N48, e48⟩
  have M48 := Fr.app M47 N48
  show own_Goes p e below T48 (mkF m 240 #[.val (.int p1), .val (.int p2), .val (.int p3), .val (.int p4), .val (.int vl), .val (.int (Int32.ofNat A)), .val (.int fl), .val (.ref o1), .val (.int ((Int32.ofNat A) + (own_len vl))), .val (.int (own_len vl))] [(.int (1 : Int32))]) (own_Ret s (K_rm_law  Z h0 n0 p1 p2 p3 p4) room_1.cells room_1.slots)
  refine own_ifF X48 hx (pc' := 243) rfl (hb hby at_240) (XT.i0_eq_f (by decide)) ?_
  refine own_aload X48 hx (pc' := 245) rfl (hb hby at_243) rfl rfl ?_
  refine own_bipush X48 hx (v := (6 : Int32)) (pc' := 247) rfl (hb hby at_245) rfl ?_
  refine own_iload X48 hx (pc' := 249) rfl (hb hby at_247) rfl ?_
  refine own_iload X48 hx (pc' := 251) rfl (hb hby at_249) rfl ?_
  refine own_iload X48 hx (pc' := 253) rfl (hb hby at_251) rfl ?_
  refine own_iload X48 hx (pc' := 255) rfl (hb hby at_253) rfl ?_
  refine own_callS X48 hx hZ (y := (⟨"com/example/shingl/shingl/Leb128WritePinLaw", "ok", "([BIIIIB)Z"⟩ : MethodName)) hown (hw _ (List.mem_of_getElem? (i := 10) rfl)) (hw _ (List.mem_of_getElem? (i := 11) rfl)) (hw _ (List.mem_of_getElem? (i := 8) rfl)) (hw _ (List.mem_of_getElem? (i := 12) rfl))  (by decide) (rm_ok l Z a0 hw [] 6 (fun j => .int (own_ex (Int32.ofNat j) (Int32.ofNat A) (own_len vl) vl fl)) o1 (6 : Int32) (Int32.ofNat A) (own_len vl) vl fl h39 n0 Siz_40 G39_0 hfl (by decide) rfl rfl) (by decide) (W := 0) (by decide) (by decide) (by decide) e48 (by rw [hml]; rfl) (argsL := [(.ref o1), (.int (6 : Int32)), (.int (Int32.ofNat A)), (.int (own_len vl)), (.int vl), (.int fl)]) (rest := []) rfl (lenOf pd___BIIIIB_Z rfl) rfl (Nat.le_of_eq rfl) (pc' := 258) rfl (hb hby at_255) ?_
  rintro _ T49 L49 X49 ⟨rfl, N49, e49⟩
  have M49 := Fr.app M48 N49
  show own_Goes p e below T49 (mkF m 258 #[.val (.int p1), .val (.int p2), .val (.int p3), .val (.int p4), .val (.int vl), .val (.int (Int32.ofNat A)), .val (.int fl), .val (.ref o1), .val (.int ((Int32.ofNat A) + (own_len vl))), .val (.int (own_len vl))] [(.int (1 : Int32))]) (own_Ret s (K_rm_law  Z h0 n0 p1 p2 p3 p4) room_1.cells room_1.slots)
  refine own_ifF X49 hx (pc' := 261) rfl (hb hby at_258) (XT.i0_eq_f (by decide)) ?_
  refine own_aload X49 hx (pc' := 263) rfl (hb hby at_261) rfl rfl ?_
  refine own_bipush X49 hx (v := (7 : Int32)) (pc' := 265) rfl (hb hby at_263) rfl ?_
  refine own_iload X49 hx (pc' := 267) rfl (hb hby at_265) rfl ?_
  refine own_iload X49 hx (pc' := 269) rfl (hb hby at_267) rfl ?_
  refine own_iload X49 hx (pc' := 271) rfl (hb hby at_269) rfl ?_
  refine own_iload X49 hx (pc' := 273) rfl (hb hby at_271) rfl ?_
  refine own_callS X49 hx hZ (y := (⟨"com/example/shingl/shingl/Leb128WritePinLaw", "ok", "([BIIIIB)Z"⟩ : MethodName)) hown (hw _ (List.mem_of_getElem? (i := 10) rfl)) (hw _ (List.mem_of_getElem? (i := 11) rfl)) (hw _ (List.mem_of_getElem? (i := 8) rfl)) (hw _ (List.mem_of_getElem? (i := 12) rfl))  (by decide) (rm_ok l Z a0 hw [] 7 (fun j => .int (own_ex (Int32.ofNat j) (Int32.ofNat A) (own_len vl) vl fl)) o1 (7 : Int32) (Int32.ofNat A) (own_len vl) vl fl h39 n0 Siz_40 G39_0 hfl (by decide) rfl rfl) (by decide) (W := 0) (by decide) (by decide) (by decide) e49 (by rw [hml]; rfl) (argsL := [(.ref o1), (.int (7 : Int32)), (.int (Int32.ofNat A)), (.int (own_len vl)), (.int vl), (.int fl)]) (rest := []) rfl (lenOf pd___BIIIIB_Z rfl) rfl (Nat.le_of_eq rfl) (pc' := 276) rfl (hb hby at_273) ?_
  rintro _ T50 L50 X50 ⟨rfl, N50, e50⟩
  have M50 := Fr.app M49 N50
  show own_Goes p e below T50 (mkF m 276 #[.val (.int p1), .val (.int p2), .val (.int p3), .val (.int p4), .val (.int vl), .val (.int (Int32.ofNat A)), .val (.int fl), .val (.ref o1), .val (.int ((Int32.ofNat A) + (own_len vl))), .val (.int (own_len vl))] [(.int (1 : Int32))]) (own_Ret s (K_rm_law  Z h0 n0 p1 p2 p3 p4) room_1.cells room_1.slots)
  refine own_ifF X50 hx (pc' := 279) rfl (hb hby at_276) (XT.i0_eq_f (by decide)) ?_
  refine own_aload X50 hx (pc' := 281) rfl (hb hby at_279) rfl rfl ?_
  refine own_bipush X50 hx (v := (8 : Int32)) (pc' := 283) rfl (hb hby at_281) rfl ?_
  refine own_iload X50 hx (pc' := 285) rfl (hb hby at_283) rfl ?_
  refine own_iload X50 hx (pc' := 287) rfl (hb hby at_285) rfl ?_
  refine own_iload X50 hx (pc' := 289) rfl (hb hby at_287) rfl ?_
  refine own_iload X50 hx (pc' := 291) rfl (hb hby at_289) rfl ?_
  refine own_callS X50 hx hZ (y := (⟨"com/example/shingl/shingl/Leb128WritePinLaw", "ok", "([BIIIIB)Z"⟩ : MethodName)) hown (hw _ (List.mem_of_getElem? (i := 10) rfl)) (hw _ (List.mem_of_getElem? (i := 11) rfl)) (hw _ (List.mem_of_getElem? (i := 8) rfl)) (hw _ (List.mem_of_getElem? (i := 12) rfl))  (by decide) (rm_ok l Z a0 hw [] 8 (fun j => .int (own_ex (Int32.ofNat j) (Int32.ofNat A) (own_len vl) vl fl)) o1 (8 : Int32) (Int32.ofNat A) (own_len vl) vl fl h39 n0 Siz_40 G39_0 hfl (by decide) rfl rfl) (by decide) (W := 0) (by decide) (by decide) (by decide) e50 (by rw [hml]; rfl) (argsL := [(.ref o1), (.int (8 : Int32)), (.int (Int32.ofNat A)), (.int (own_len vl)), (.int vl), (.int fl)]) (rest := []) rfl (lenOf pd___BIIIIB_Z rfl) rfl (Nat.le_of_eq rfl) (pc' := 294) rfl (hb hby at_291) ?_
  rintro _ T51 L51 X51 ⟨rfl, N51, e51⟩
  have M51 := Fr.app M50 N51
  show own_Goes p e below T51 (mkF m 294 #[.val (.int p1), .val (.int p2), .val (.int p3), .val (.int p4), .val (.int vl), .val (.int (Int32.ofNat A)), .val (.int fl), .val (.ref o1), .val (.int ((Int32.ofNat A) + (own_len vl))), .val (.int (own_len vl))] [(.int (1 : Int32))]) (own_Ret s (K_rm_law  Z h0 n0 p1 p2 p3 p4) room_1.cells room_1.slots)
  refine own_ifF X51 hx (pc' := 297) rfl (hb hby at_294) (XT.i0_eq_f (by decide)) ?_
  refine own_aload X51 hx (pc' := 299) rfl (hb hby at_297) rfl rfl ?_
  refine own_bipush X51 hx (v := (9 : Int32)) (pc' := 301) rfl (hb hby at_299) rfl ?_
  refine own_iload X51 hx (pc' := 303) rfl (hb hby at_301) rfl ?_
  refine own_iload X51 hx (pc' := 305) rfl (hb hby at_303) rfl ?_
  refine own_iload X51 hx (pc' := 307) rfl (hb hby at_305) rfl ?_
  refine own_iload X51 hx (pc' := 309) rfl (hb hby at_307) rfl ?_
  refine own_callS X51 hx hZ (y := (⟨"com/example/shingl/shingl/Leb128WritePinLaw", "ok", "([BIIIIB)Z"⟩ : MethodName)) hown (hw _ (List.mem_of_getElem? (i := 10) rfl)) (hw _ (List.mem_of_getElem? (i := 11) rfl)) (hw _ (List.mem_of_getElem? (i := 8) rfl)) (hw _ (List.mem_of_getElem? (i := 12) rfl))  (by decide) (rm_ok l Z a0 hw [] 9 (fun j => .int (own_ex (Int32.ofNat j) (Int32.ofNat A) (own_len vl) vl fl)) o1 (9 : Int32) (Int32.ofNat A) (own_len vl) vl fl h39 n0 Siz_40 G39_0 hfl (by decide) rfl rfl) (by decide) (W := 0) (by decide) (by decide) (by decide) e51 (by rw [hml]; rfl) (argsL := [(.ref o1), (.int (9 : Int32)), (.int (Int32.ofNat A)), (.int (own_len vl)), (.int vl), (.int fl)]) (rest := []) rfl (lenOf pd___BIIIIB_Z rfl) rfl (Nat.le_of_eq rfl) (pc' := 312) rfl (hb hby at_309) ?_
  rintro _ T52 L52 X52 ⟨rfl, N52, e52⟩
  have M52 := Fr.app M51 N52
  show own_Goes p e below T52 (mkF m 312 #[.val (.int p1), .val (.int p2), .val (.int p3), .val (.int p4), .val (.int vl), .val (.int (Int32.ofNat A)), .val (.int fl), .val (.ref o1), .val (.int ((Int32.ofNat A) + (own_len vl))), .val (.int (own_len vl))] [(.int (1 : Int32))]) (own_Ret s (K_rm_law  Z h0 n0 p1 p2 p3 p4) room_1.cells room_1.slots)
  refine own_ifF X52 hx (pc' := 315) rfl (hb hby at_312) (XT.i0_eq_f (by decide)) ?_
  refine own_aload X52 hx (pc' := 317) rfl (hb hby at_315) rfl rfl ?_
  refine own_bipush X52 hx (v := (10 : Int32)) (pc' := 319) rfl (hb hby at_317) rfl ?_
  refine own_iload X52 hx (pc' := 321) rfl (hb hby at_319) rfl ?_
  refine own_iload X52 hx (pc' := 323) rfl (hb hby at_321) rfl ?_
  refine own_iload X52 hx (pc' := 325) rfl (hb hby at_323) rfl ?_
  refine own_iload X52 hx (pc' := 327) rfl (hb hby at_325) rfl ?_
  refine own_callS X52 hx hZ (y := (⟨"com/example/shingl/shingl/Leb128WritePinLaw", "ok", "([BIIIIB)Z"⟩ : MethodName)) hown (hw _ (List.mem_of_getElem? (i := 10) rfl)) (hw _ (List.mem_of_getElem? (i := 11) rfl)) (hw _ (List.mem_of_getElem? (i := 8) rfl)) (hw _ (List.mem_of_getElem? (i := 12) rfl))  (by decide) (rm_ok l Z a0 hw [] 10 (fun j => .int (own_ex (Int32.ofNat j) (Int32.ofNat A) (own_len vl) vl fl)) o1 (10 : Int32) (Int32.ofNat A) (own_len vl) vl fl h39 n0 Siz_40 G39_0 hfl (by decide) rfl rfl) (by decide) (W := 0) (by decide) (by decide) (by decide) e52 (by rw [hml]; rfl) (argsL := [(.ref o1), (.int (10 : Int32)), (.int (Int32.ofNat A)), (.int (own_len vl)), (.int vl), (.int fl)]) (rest := []) rfl (lenOf pd___BIIIIB_Z rfl) rfl (Nat.le_of_eq rfl) (pc' := 330) rfl (hb hby at_327) ?_
  rintro _ T53 L53 X53 ⟨rfl, N53, e53⟩
  have M53 := Fr.app M52 N53
  show own_Goes p e below T53 (mkF m 330 #[.val (.int p1), .val (.int p2), .val (.int p3), .val (.int p4), .val (.int vl), .val (.int (Int32.ofNat A)), .val (.int fl), .val (.ref o1), .val (.int ((Int32.ofNat A) + (own_len vl))), .val (.int (own_len vl))] [(.int (1 : Int32))]) (own_Ret s (K_rm_law  Z h0 n0 p1 p2 p3 p4) room_1.cells room_1.slots)
  refine own_ifF X53 hx (pc' := 333) rfl (hb hby at_330) (XT.i0_eq_f (by decide)) ?_
  refine own_aload X53 hx (pc' := 335) rfl (hb hby at_333) rfl rfl ?_
  refine own_bipush X53 hx (v := (11 : Int32)) (pc' := 337) rfl (hb hby at_335) rfl ?_
  refine own_iload X53 hx (pc' := 339) rfl (hb hby at_337) rfl ?_
  refine own_iload X53 hx (pc' := 341) rfl (hb hby at_339) rfl ?_
  refine own_iload X53 hx (pc' := 343) rfl (hb hby at_341) rfl ?_
  refine own_iload X53 hx (pc' := 345) rfl (hb hby at_343) rfl ?_
  refine own_callS X53 hx hZ (y := (⟨"com/example/shingl/shingl/Leb128WritePinLaw", "ok", "([BIIIIB)Z"⟩ : MethodName)) hown (hw _ (List.mem_of_getElem? (i := 10) rfl)) (hw _ (List.mem_of_getElem? (i := 11) rfl)) (hw _ (List.mem_of_getElem? (i := 8) rfl)) (hw _ (List.mem_of_getElem? (i := 12) rfl))  (by decide) (rm_ok l Z a0 hw [] 11 (fun j => .int (own_ex (Int32.ofNat j) (Int32.ofNat A) (own_len vl) vl fl)) o1 (11 : Int32) (Int32.ofNat A) (own_len vl) vl fl h39 n0 Siz_40 G39_0 hfl (by decide) rfl rfl) (by decide) (W := 0) (by decide) (by decide) (by decide) e53 (by rw [hml]; rfl) (argsL := [(.ref o1), (.int (11 : Int32)), (.int (Int32.ofNat A)), (.int (own_len vl)), (.int vl), (.int fl)]) (rest := []) rfl (lenOf pd___BIIIIB_Z rfl) rfl (Nat.le_of_eq rfl) (pc' := 348) rfl (hb hby at_345) ?_
  rintro _ T54 L54 X54 ⟨rfl, N54, e54⟩
  have M54 := Fr.app M53 N54
  show own_Goes p e below T54 (mkF m 348 #[.val (.int p1), .val (.int p2), .val (.int p3), .val (.int p4), .val (.int vl), .val (.int (Int32.ofNat A)), .val (.int fl), .val (.ref o1), .val (.int ((Int32.ofNat A) + (own_len vl))), .val (.int (own_len vl))] [(.int (1 : Int32))]) (own_Ret s (K_rm_law  Z h0 n0 p1 p2 p3 p4) room_1.cells room_1.slots)
  refine own_ifF X54 hx (pc' := 351) rfl (hb hby at_348) (XT.i0_eq_f (by decide)) ?_
  refine own_iconst X54 hx (v := (1 : Int32)) (pc' := 352) rfl (hb hby at_351) rfl ?_
  refine own_goto X54 hx (pc' := 356) (hb hby at_352) (by decide) (by decide) ?_
  refine own_zret X54 hx hlk hret (by simp) (hb hby at_356) (by decide) (by decide) ?_
  rw [e54]
  exact ⟨rfl, M54⟩
set_option maxRecDepth 65536 in
set_option maxHeartbeats 40000000 in
theorem comes_1 {Post : Tables → Env → Array Value → State → Outcome → State → Prop} (hpost : ∀ tb e args s v u, (limb_1_1.after args s (.returned v) u = true ∧ limb_1_2.after args s (.returned v) u = true ∧ True) → FrameEnd s (.returned v) u (Jvm.fieldLocs frame_1_writes args s ++ Jvm.arrayLocs frame_1_arrays args s ++ Jvm.staticLocs frame_1_statics s) 16 128 → Post tb e args s (.returned v) u) :
    ArmFor flags0 classFile x code maxLocals ret World_1 tables_1 room_1 Calls_1 rest_1 Pre_1 Post := by
  intro l hfl _ _ p e ha hc hk s m args below hf hA hF happ hP
  obtain ⟨hcalls, hrest, hpre⟩ := hP
  obtain ⟨-, -, -, hnamed, -, -, -, hat⟩ := (Spec.applies_iff hf).mp happ
  obtain ⟨hg, hn⟩ := and_e (Cond.before_iff.mp (show (Jvm.Cond.and given_1 narrow_1).before args s = true from hpre))
  obtain ⟨h1, hg1⟩ := and_e hg
  obtain ⟨w0, w1, w2, w3, rfl⟩ : ∃ w0 w1 w2 w3 : Value, args = #[w0, w1, w2, w3] := by
    have hs : args.size = 4 := by simpa [Cond.value, given_1] using h1
    obtain ⟨L⟩ := args
    match L, hs with
    | [w0, w1, w2, w3], _ => exact ⟨w0, w1, w2, w3, rfl⟩
  have hw := fun d (hd : d ∈ tables_1) => atoms_spec (ws := Jvm.Cond.code x code maxLocals ret :: tables_1) hat d (List.mem_cons_of_mem _ hd)
  have hfit : Fit s := fun {y c} hc i hi => by
    obtain ⟨ha, rfl⟩ := Array.getElem?_eq_some_iff.mp hc
    have q := List.all_eq_true.mp ((Array.all_eq_true_iff_forall_mem.mp hF) _ (Array.getElem_mem ha)) i (List.mem_range.mpr hi)
    simpa [Array.getElem?_eq_getElem hi] using q
  obtain ⟨q0, hg2⟩ := and_e hg1
  obtain ⟨i0, ee0⟩ := is_v q0
  obtain rfl : w0 = (.int i0) := Option.some.inj ee0
  obtain ⟨q1, hg3⟩ := and_e hg2
  obtain ⟨i1, ee1⟩ := is_v q1
  obtain rfl : w1 = (.int i1) := Option.some.inj ee1
  obtain ⟨q2, hg4⟩ := and_e hg3
  obtain ⟨i2, ee2⟩ := is_v q2
  obtain rfl : w2 = (.int i2) := Option.some.inj ee2
  obtain ⟨i3, ee3⟩ := is_v hg4
  obtain rfl : w3 = (.int i3) := Option.some.inj ee3
  obtain ⟨n, o, h1, h2, h3, _, L, rfl, ⟨rfl, N⟩, hq⟩ := rm_law l s _ hw tables_1  i0 i1 i2 i3 s.heap s.heap.size (Nat.le_refl _) p e ha hc hk s m _ below hf ((Spec.applies_iff_loose hf).mp happ).1 ⟨rfl, State.Warmed39.refl s, rfl⟩ trivial
  refine ⟨n, _, h1, h2, h3, hpost _ _ _ _ _ _ ⟨Cond.after_iff.mpr rfl, Cond.after_iff.mpr (eq_i res_at (Term.int_eval (1)) rfl), trivial⟩ ⟨hq.1, hq.2.1, (hq.2.2.sift fun y hy => Or.inr (N y hy)).mono (by decide) (by decide)⟩⟩
theorem main_1_1 : Claimed_1_1 := comes_1 fun _ _ _ _ _ _ h hF => ⟨h.1, hF⟩
theorem main_1_2 : Claimed_1_2 := comes_1 fun _ _ _ _ _ _ h hF => ⟨h.2.1, hF⟩
end Jvm.Pilot.@@N@@
namespace Jvm.Pilot.@@N@@
open Jvm Jvm.ClassFile Sem Op Lib Jvm.Free Jvm.Stand Jvm.Pilot.@@N@@.Jvm.D
/-! MADE BY PROGRAM (witnessworld.py) out of the Statement's table words and the real class files: 9 classes; the members and pool entries that the words name. The judged class is class 1, her method 1. -/
namespace start1
open Jvm.ClassFile
def u (s : String) : CpInfo := .utf8 (stringToUtf16 s)
/-- a pool by its gaps: so many unusable entries, then the entry; so many at the end -/
def gap : Nat → List CpInfo → List CpInfo
  | 0, r => r
  | n + 1, r => .unusable :: gap n r
def poolList (es : List (Nat × CpInfo)) (last : Nat) : List CpInfo := es.foldr (fun e r => gap e.1 (e.2 :: r)) (gap last [])
def pool (es : List (Nat × CpInfo)) (last : Nat) : Array CpInfo := ⟨poolList es last⟩
def fileOf (pool : Array CpInfo) (this : Nat) (attrs : Array Attribute := #[]) (ms : Array MethodInfo := #[]) (fl : Nat := 33) (sup : Nat := 0) (ifs : Array Nat := #[]) (fds : Array FieldInfo := #[]) : ClassFile where
  minorVersion := 0
  majorVersion := 65
  constantPool := pool
  accessFlags := fl
  thisClass := this
  superClass := sup
  interfaces := ifs
  fields := fds
  methods := ms
  attributes := attrs
def plain (name : String) (sup : Option ClassId) : Class where
  name := name
  kind := .ordinary
  loader := none
  accessFlags := 33
  super := sup
  interfaces := #[]
  cf := none
  fields := #[]
  methods := #[]
  instanceTypes := #[]
  staticTypes := #[]
  resolved := #[]
  callSites := []
  init := .initialized
  statics := none
  mirror := none

def pool0 : Array CpInfo := pool [(5, u "<init>"), (0, u "()V"), (1, .class_ 10), (1, u "java/lang/Object")] 113

def k0m0 : Method := { name := "<init>", desc := "()V", sig := { parameters := [], returnType := none }, accessFlags := 1, code := none }
/-- java/lang/Object -/
def k0 : Class := { plain "java/lang/Object" none with
  accessFlags := 33
  interfaces := #[]
  cf := some (fileOf pool0 8 #[] #[{ accessFlags := 1, nameIndex := 5, descriptorIndex := 6, attributes := #[] }] 33 0 #[] #[])
  fields := #[]
  methods := #[k0m0]
  instanceTypes := #[]
  staticTypes := #[]
  resolved := Array.replicate 124 none
  statics := none }

def pool1 : Array CpInfo := pool [(2, .class_ 4), (1, u "java/lang/Object"), (0, u "<init>"), (0, u "()V"), (0, .integer 2147483647), (0, .methodref 9 10), (0, .class_ 11), (0, .nameAndType 12 13), (0, u "com/example/shingl/shingl/Leb128"), (0, u "write"), (0, u "([BII)I"), (0, .methodref 15 16), (0, .class_ 17), (0, .nameAndType 18 19), (0, u "com/example/shingl/shingl/Leb128WritePinLaw"), (0, u "len"), (0, u "(I)I"), (0, .methodref 15 21), (0, .nameAndType 22 23), (0, u "ok"), (0, u "([BIIIIB)Z"), (0, .integer 2097152), (0, .integer 268435456), (0, .methodref 15 27), (0, .nameAndType 28 29), (0, u "exp"), (0, u "(IIIIB)B"), (2, u "law"), (0, u "(IIII)Z")] 5

def k1m0 : Method := { name := "<init>", desc := "()V", sig := { parameters := [], returnType := none }, accessFlags := 1, code := none }
def k1c1 : Code := { maxStack := 6, maxLocals := 10, code := code, exceptionTable := #[], attributes := #[] }
def k1m1 : Method := { name := "law", desc := "(IIII)Z", sig := { parameters := [.int, .int, .int, .int], returnType := some .boolean }, accessFlags := 9, code := some k1c1 }
def k1c2 : Code := { maxStack := 2, maxLocals := 1, code := method_3_code, exceptionTable := #[], attributes := #[] }
def k1m2 : Method := { name := "len", desc := "(I)I", sig := { parameters := [.int], returnType := some .int }, accessFlags := 10, code := some k1c2 }
def k1c3 : Code := { maxStack := 3, maxLocals := 7, code := method_4_code, exceptionTable := #[], attributes := #[] }
def k1m3 : Method := { name := "exp", desc := "(IIIIB)B", sig := { parameters := [.int, .int, .int, .int, .byte], returnType := some .byte }, accessFlags := 10, code := some k1c3 }
def k1c4 : Code := { maxStack := 6, maxLocals := 6, code := method_5_code, exceptionTable := #[], attributes := #[] }
def k1m4 : Method := { name := "ok", desc := "([BIIIIB)Z", sig := { parameters := [(.array .byte), .int, .int, .int, .int, .byte], returnType := some .boolean }, accessFlags := 10, code := some k1c4 }
/-- com/example/shingl/shingl/Leb128WritePinLaw -/
def k1 : Class := { plain "com/example/shingl/shingl/Leb128WritePinLaw" (some 0) with
  accessFlags := 49
  interfaces := #[]
  cf := some (fileOf pool1 15 #[] #[{ accessFlags := 1, nameIndex := 5, descriptorIndex := 6, attributes := #[] }, { accessFlags := 9, nameIndex := 32, descriptorIndex := 33, attributes := #[] }, { accessFlags := 10, nameIndex := 18, descriptorIndex := 19, attributes := #[] }, { accessFlags := 10, nameIndex := 28, descriptorIndex := 29, attributes := #[] }, { accessFlags := 10, nameIndex := 22, descriptorIndex := 23, attributes := #[] }] 49 2 #[] #[])
  fields := #[]
  methods := #[k1m0, k1m1, k1m2, k1m3, k1m4]
  instanceTypes := #[]
  staticTypes := #[]
  resolved := Array.replicate 39 none
  statics := none }

def pool2 : Array CpInfo := pool [(2, .class_ 4), (1, u "java/lang/Object"), (0, u "<init>"), (0, u "()V"), (0, .class_ 8), (0, u "com/example/shingl/shingl/Leb128"), (2, u "write"), (0, u "([BII)I"), (31, u "MAX_BYTES"), (0, u "I")] 10

def k2m0 : Method := { name := "<init>", desc := "()V", sig := { parameters := [], returnType := none }, accessFlags := 2, code := none }
def k2c1 : Code := { maxStack := 4, maxLocals := 5, code := prog_12_method_3_code, exceptionTable := #[], attributes := #[] }
def k2m1 : Method := { name := "write", desc := "([BII)I", sig := { parameters := [(.array .byte), .int, .int], returnType := some .int }, accessFlags := 8, code := some k2c1 }
/-- com/example/shingl/shingl/Leb128 -/
def k2 : Class := { plain "com/example/shingl/shingl/Leb128" (some 0) with
  accessFlags := 32
  interfaces := #[]
  cf := some (fileOf pool2 7 #[] #[{ accessFlags := 2, nameIndex := 5, descriptorIndex := 6, attributes := #[] }, { accessFlags := 8, nameIndex := 11, descriptorIndex := 12, attributes := #[] }] 32 2 #[] #[{ accessFlags := 24, nameIndex := 44, descriptorIndex := 45, attributes := #[] }])
  fields := #[{ name := "MAX_BYTES", type := .int, accessFlags := 24, slot := 0, constantValue := 0 }]
  methods := #[k2m0, k2m1]
  instanceTypes := #[]
  staticTypes := #[.int]
  resolved := Array.replicate 56 none
  statics := none }

def pool3 : Array CpInfo := pool [(1, u "java/lang/Cloneable"), (0, .class_ 1), (0, u "java/lang/Object"), (0, .class_ 3)] 3

/-- java/lang/Cloneable -/
def k3 : Class := { plain "java/lang/Cloneable" (some 0) with
  accessFlags := 1537
  interfaces := #[]
  cf := some (fileOf pool3 2 #[] #[] 1537 4 #[] #[])
  fields := #[]
  methods := #[]
  instanceTypes := #[]
  staticTypes := #[]
  resolved := Array.replicate 8 none
  statics := none }

def pool4 : Array CpInfo := pool [(1, u "java/io/Serializable"), (0, .class_ 1), (0, u "java/lang/Object"), (0, .class_ 3)] 3

/-- java/io/Serializable -/
def k4 : Class := { plain "java/io/Serializable" (some 0) with
  accessFlags := 1537
  interfaces := #[]
  cf := some (fileOf pool4 2 #[] #[] 1537 4 #[] #[])
  fields := #[]
  methods := #[]
  instanceTypes := #[]
  staticTypes := #[]
  resolved := Array.replicate 8 none
  statics := none }

/-- the primitive byte -/
def k5 : Class := { plain "byte" none with kind := .primitive 'B', accessFlags := 0x411 }
/-- [B -/
def k6 : Class := { plain "[B" (some 0) with kind := .array 5 .byte, interfaces := #[3, 4], accessFlags := 1041 }

/-- the primitive int -/
def k7 : Class := { plain "int" none with kind := .primitive 'I', accessFlags := 0x411 }
/-- [I -/
def k8 : Class := { plain "[I" (some 0) with kind := .array 7 .int, interfaces := #[3, 4], accessFlags := 1041 }

def heap : Heap := #[]
def classes : Array Class := #[k0, k1, k2, k3, k4, k5, k6, k7, k8]
def interned : List (Array UInt16 × Addr) := []
def slotsUsed : Nat := 0
def theMethod : MethodId := ⟨1, 1⟩
def args0 : Array Value := #[.int 5, .int 7, .int 9, .int 11]
def aboutOver (below : List Frame) : State where
  vm := { classes := classes, interned := interned.toArray }
  heap := heap
  slotsUsed := slotsUsed
  threads := #[{ frames := .invoking theMethod args0 :: below }]
def below0 : List Frame := [.native { method := ⟨0, 0⟩, args := #[] }]
def about1 : State := aboutOver below0
def p0 : Program := .bare "" "" ""
def e0 : Env := launch0.env 0 0 0
theorem w_frames : about1.frames = Frame.invoking theMethod args0 :: below0 := rfl
set_option maxRecDepth 65536 in
theorem w_args : argsFit about1.vm theMethod args0 = true := by decide +kernel
set_option maxRecDepth 65536 in
theorem w_heap : heapFits about1 = true := by decide +kernel
set_option maxRecDepth 65536 in
theorem w_runnable : about1.curStatus? = some .runnable := by decide +kernel
set_option maxRecDepth 65536 in
theorem w_alone : about1.alone = true := by decide +kernel
set_option maxRecDepth 65536 in
theorem w_named : about1.methodNamed? x = some theMethod := by decide +kernel
set_option maxRecDepth 65536 in
theorem w_hears : about1.hears theMethod below0 = true := by decide +kernel
set_option maxRecDepth 65536 in
theorem w_ripe : about1.ripe theMethod args0 below0 = true := by decide +kernel
theorem w_running : about1.status = .running := rfl
set_option maxRecDepth 65536 in
theorem w_room : about1.hasRoom e0.platform room_1 = true :=
  launch0.hasRoom_least _ room_1 (by decide +kernel) (by decide +kernel) (by decide +kernel) (by decide +kernel) (by decide +kernel) (by decide +kernel)
theorem allAtoms_all (ts : List Jvm.Cond) (a : Array Jvm.Value) (st : Jvm.State) : (allAtoms ts).before a st = ts.all (fun c => c.before a st) := by
  induction ts with
  | nil => rfl
  | cons c t ih =>
    show (Jvm.Cond.and c (allAtoms t)).before a st = _
    rw [Jvm.Cond.before_and, ih, List.all_cons]
def words1 : List Jvm.Cond := Jvm.Cond.code x code maxLocals ret :: tables_1
/-- a 'code' word, met by the world's own term for the bytes: nothing is compared byte by byte -/
theorem code_word {y : MethodName} {bytes : ByteArray} {mx : Nat} {rt : Option FieldType} {a : Array Value} {s : State} {m : MethodId} {meth : Method} {c : Code} (h1 : s.methodNamed? y = some m) (h2 : s.vm.method? m = some meth) (h3 : meth.code = some c) (h4 : c.code = bytes)
    (h5 : (c.maxLocals == mx && c.exceptionTable.isEmpty && decide (c.maxStack ≤ mostOperands) && decide (meth.sig.returnType = rt) && !meth.locks && decide (parseMethodDescriptor y.desc = some meth.sig)) = true) : (Jvm.Cond.code y bytes mx rt).before a s = true := by
  simp only [Bool.and_eq_true, beq_iff_eq, Bool.not_eq_true', decide_eq_true_eq] at h5
  obtain ⟨⟨⟨⟨⟨g1, g2⟩, g3⟩, g4⟩, g5⟩, g6⟩ := h5
  simp [Cond.before, Cond.holds, Cond.value, h1, h2, h3, h4, g1, g2, g3, g4, g5, g6]
def isCode : Jvm.Cond → Bool
  | .code _ _ _ _ => true
  | _ => false
theorem all_split {L : List Jvm.Cond} {P : Jvm.Cond → Bool} (h1 : L.all (fun c => isCode c || P c) = true) (h2 : ∀ c ∈ L.filter isCode, P c = true) : L.all P = true := by
  refine List.all_eq_true.mpr fun c hc => ?_
  have h := List.all_eq_true.mp h1 c hc
  rcases Bool.eq_false_or_eq_true (isCode c) with hi | hi
  · exact h2 c (List.mem_filter.mpr ⟨hc, hi⟩)
  · simpa [hi] using h
set_option maxRecDepth 65536 in
theorem w_c0 : (Jvm.Cond.code x code maxLocals ret).before args0 about1 = true := code_word (m := ⟨1, 1⟩) (meth := k1m1) (c := k1c1) (by decide +kernel) rfl rfl rfl (by decide +kernel)
set_option maxRecDepth 65536 in
theorem w_c1 : (Jvm.Cond.code ({ cls := "com/example/shingl/shingl/Leb128", name := "write", desc := "([BII)I" } : Jvm.MethodName) prog_12_method_3_code (5 : Nat) (Option.some Jvm.ClassFile.FieldType.int)).before args0 about1 = true := code_word (m := ⟨2, 1⟩) (meth := k2m1) (c := k2c1) (by decide +kernel) rfl rfl rfl (by decide +kernel)
set_option maxRecDepth 65536 in
theorem w_c2 : (Jvm.Cond.code ({ cls := "com/example/shingl/shingl/Leb128WritePinLaw", name := "len", desc := "(I)I" } : Jvm.MethodName) method_3_code (1 : Nat) (Option.some Jvm.ClassFile.FieldType.int)).before args0 about1 = true := code_word (m := ⟨1, 2⟩) (meth := k1m2) (c := k1c2) (by decide +kernel) rfl rfl rfl (by decide +kernel)
set_option maxRecDepth 65536 in
theorem w_c3 : (Jvm.Cond.code ({ cls := "com/example/shingl/shingl/Leb128WritePinLaw", name := "ok", desc := "([BIIIIB)Z" } : Jvm.MethodName) method_5_code (6 : Nat) (Option.some Jvm.ClassFile.FieldType.boolean)).before args0 about1 = true := code_word (m := ⟨1, 4⟩) (meth := k1m4) (c := k1c4) (by decide +kernel) rfl rfl rfl (by decide +kernel)
set_option maxRecDepth 65536 in
theorem w_c4 : (Jvm.Cond.code ({ cls := "com/example/shingl/shingl/Leb128WritePinLaw", name := "exp", desc := "(IIIIB)B" } : Jvm.MethodName) method_4_code (7 : Nat) (Option.some Jvm.ClassFile.FieldType.byte)).before args0 about1 = true := code_word (m := ⟨1, 3⟩) (meth := k1m3) (c := k1c3) (by decide +kernel) rfl rfl rfl (by decide +kernel)
def codes1 : List Jvm.Cond := [Jvm.Cond.code x code maxLocals ret, Jvm.Cond.code ({ cls := "com/example/shingl/shingl/Leb128", name := "write", desc := "([BII)I" } : Jvm.MethodName) prog_12_method_3_code (5 : Nat) (Option.some Jvm.ClassFile.FieldType.int), Jvm.Cond.code ({ cls := "com/example/shingl/shingl/Leb128WritePinLaw", name := "len", desc := "(I)I" } : Jvm.MethodName) method_3_code (1 : Nat) (Option.some Jvm.ClassFile.FieldType.int), Jvm.Cond.code ({ cls := "com/example/shingl/shingl/Leb128WritePinLaw", name := "ok", desc := "([BIIIIB)Z" } : Jvm.MethodName) method_5_code (6 : Nat) (Option.some Jvm.ClassFile.FieldType.boolean), Jvm.Cond.code ({ cls := "com/example/shingl/shingl/Leb128WritePinLaw", name := "exp", desc := "(IIIIB)B" } : Jvm.MethodName) method_4_code (7 : Nat) (Option.some Jvm.ClassFile.FieldType.byte)]
set_option maxRecDepth 65536 in
theorem codes_eq : words1.filter isCode = codes1 := rfl
theorem w_codes : ∀ c ∈ words1.filter isCode, c.before args0 about1 = true := by
  rw [codes_eq]
  intro c hc
  simp only [codes1, List.mem_cons, List.not_mem_nil, or_false] at hc
  rcases hc with rfl | rfl | rfl | rfl | rfl
  · exact w_c0
  · exact w_c1
  · exact w_c2
  · exact w_c3
  · exact w_c4
set_option maxRecDepth 65536 in
theorem w_t1 : words1.all (fun c => isCode c || c.before args0 about1) = true := by decide +kernel
theorem w_tables : (allAtoms (Jvm.Cond.code x code maxLocals ret :: tables_1)).before args0 about1 = true := by
  rw [allAtoms_all]
  show words1.all (fun c => c.before args0 about1) = true
  refine all_split ?_ w_codes
  rw [w_t1]
set_option maxRecDepth 65536 in
theorem w_case : (Jvm.Cond.and given_1 narrow_1).before args0 about1 = true := by decide +kernel
theorem w_applies : (headSpec (Jvm.Cond.code x code maxLocals ret :: tables_1) room_1).applies x e0.platform about1 = true :=
  (Spec.applies_iff w_frames).mpr ⟨w_running, w_runnable, w_alone, w_named, w_hears, w_ripe, w_room, w_tables⟩
theorem atStart : AtStart classFile x code maxLocals ret World_1 tables_1 room_1 Calls_1 rest_1 Pre_1 launch0 p0 e0 about1 theMethod args0 below0 :=
  ⟨lists_1, trivial, launch0.admits_env _ _ _, launch0.least_env, fairChoices_fair.cas, fairChoices_fair.clock, w_frames, w_args, w_heap, w_applies, trivial, trivial, w_case⟩
end start1
theorem witness_1 : WitnessClaimed_1 := ⟨start1.p0, start1.e0, start1.about1, start1.theMethod, start1.args0, start1.below0, start1.atStart⟩
end Jvm.Pilot.@@N@@
