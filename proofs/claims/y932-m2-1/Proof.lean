import JvmDerived
import JvmDerived.Pilot.@@N@@Statement
import JvmDerived.Pilot.@@N@@Code
set_option linter.unusedVariables false
set_option linter.unusedSimpArgs false
@@BLOCK:NumsL.lean.txt@@
namespace Jvm.Pilot.@@N@@
open Jvm Jvm.ClassFile Sem Op Lib Jvm.Free Jvm.Stand Jvm.LawKit Jvm.RoadKit Bundle Jvm.Pilot.@@N@@.Jvm.D
/-! 1. OWN: a walk in continuation style: 'own_Goes': from this frame the run comes back with an outcome of which Q holds -/
def own_Goes (p : Program) (e : Env) (below : List Frame) (T : State) (F : JFrame) (Q : Outcome → State → Prop) : Prop := ∃ s₂ o, Steps p.tables e below (T.setTop F) s₂ ∧ s₂.status = .running ∧ Ended s₂ below o ∧ Q o s₂
def own_Ret (s : State) (K : Option Value → Heap → List Loc → Prop) (rc rs : Nat) (o : Outcome) (U' : State) : Prop := ∃ v L, o = .returned v ∧ K v U'.heap L ∧ FrameEnd s o U' L rc rs
def own_upd (f : Nat → Value) (k : Nat) (v : Value) : Nat → Value := fun i => if i = k then v else f i
/-- an array of n places at a; place j holds f j -/
def own_Arr (Z : State) (h : Heap) (a : Addr) (ty : FieldType) (n : Nat) (f : Nat → Value) : Prop := ∃ c : Cell, Arr Z h a c ty ∧ c.slots.size = n ∧ n < 2 ^ 31 ∧ ∀ j, j < n → c.slots[j]? = some (f j)
section Own
variable {p : Program} {l : Launch} {e : Env} {R : Room} {s : State} {m : MethodId} {args : Array Value} {below : List Frame} {meth : Method} {c : Code} {T : State} {locs : List Loc} {cells slots : Nat} {Z : State} {a0 : Array Value} {h h' : Heap} {Q : Outcome → State → Prop} {Ls Ls' : Array Slot} {st : List Value} {pc pc' : Nat}
theorem own_step {T' : State} {F F' : JFrame} (k : ∀ t, Steps p.tables e below (T'.setTop F') t → Steps p.tables e below (T.setTop F) t) (q : own_Goes p e below T' F' Q) : own_Goes p e below T F Q := by
  obtain ⟨s2, o, h1, h2⟩ := q
  exact ⟨s2, o, k _ h1, h2⟩
theorem own_body {y : MethodName} {bytes : ByteArray} {maxL : Nat} {rt : Option FieldType} {ws : List Jvm.Cond} {rm : Room} {as : Array Value} {h0 : Heap} {K : Option Value → Heap → List Loc → Prop} (hpl : plainFor y = true)
    (body : ∀ (p : Program) (e : Env) (s : State) (m : MethodId) (below : List Frame) (meth : Method) (c : Code) (s₁ : State), p.tables.exec = Jvm.exec → c.code = bytes → c.maxLocals = maxL → s.vm.findClass y.cls = some m.cls → meth.name = y.name → meth.sig.returnType = rt → meth.locks = false → Z.Warmed39 s.vm →
      Stand p l e rm s m as below meth c s₁ [] 0 0 → s₁.heap = h0 → own_Goes p e below s₁ (entryFrame m as maxL) (own_Ret s K rm.cells rm.slots)) :
    MetFree l y (head1 (Jvm.Cond.code y bytes maxL rt :: ws) rm) (fun a U => a = as ∧ Z.Warmed39 U.vm ∧ U.heap = h0) (fun _ _ _ _ _ => True) (fun _ U o U' => ∃ v L, o = .returned v ∧ K v U'.heap L ∧ FrameEnd U o U' L rm.cells rm.slots) := by
  refine MetFree.of_bodySF hpl hisR ?_
  intro p e s m args below meth c s₁ Bd hml0 hP hK
  obtain ⟨rfl, hZ, hh⟩ := hP
  exact body p e s m below meth c s₁ Bd.exec Bd.bytes hml0 (findClass_of_methodNamed Bd.named) (name_of_methodNamed Bd.named Bd.method).1 Bd.returns Bd.notSynchronized hZ (Stand.of_body Bd) (by rw [← hh, Bd.state]; rfl)
theorem own_iload (X : Stand p l e R s m args below meth c T locs cells slots) (hx : p.tables.exec = Jvm.exec) {k : Nat} {v : Int32} (hp : pc + 2 = pc') (hd : decode c.code pc = .ok (.iload k, 2)) (hl : Ls[k]? = some (.val (.int v))) (k : own_Goes p e below T (mkF m pc' Ls (.int v :: st)) Q) : own_Goes p e below T (mkF m pc Ls st) Q := by
  subst hp; exact own_step (fun _ q => XS.iload X.here hx rfl hd hl q) k
theorem own_iloadN (X : Stand p l e R s m args below meth c T locs cells slots) (hx : p.tables.exec = Jvm.exec) {k : Fin 4} {v : Int32} (hp : pc + 1 = pc') (hd : decode c.code pc = .ok (.iload_n k, 1)) (hl : Ls[k.val]? = some (.val (.int v))) (k : own_Goes p e below T (mkF m pc' Ls (.int v :: st)) Q) : own_Goes p e below T (mkF m pc Ls st) Q := by
  subst hp; exact own_step (fun _ q => XS.iloadN X.here hx rfl hd hl q) k
theorem own_istore (X : Stand p l e R s m args below meth c T locs cells slots) (hx : p.tables.exec = Jvm.exec) {k : Nat} {v : Int32} (hp : pc + 2 = pc') (hd : decode c.code pc = .ok (.istore k, 2)) (hl : storeLocals Ls k (.int v) = some Ls') (k : own_Goes p e below T (mkF m pc' Ls' st) Q) : own_Goes p e below T (mkF m pc Ls (.int v :: st)) Q := by
  subst hp; exact own_step (fun _ q => XS.istore X.here hx rfl hd rfl hl q) k
theorem own_istoreN (X : Stand p l e R s m args below meth c T locs cells slots) (hx : p.tables.exec = Jvm.exec) {k : Fin 4} {v : Int32} (hp : pc + 1 = pc') (hd : decode c.code pc = .ok (.istore_n k, 1)) (hl : storeLocals Ls k.val (.int v) = some Ls') (k : own_Goes p e below T (mkF m pc' Ls' st) Q) : own_Goes p e below T (mkF m pc Ls (.int v :: st)) Q := by
  subst hp; exact own_step (fun _ q => XS.istoreN X.here hx rfl hd rfl hl q) k
theorem own_lload (X : Stand p l e R s m args below meth c T locs cells slots) (hx : p.tables.exec = Jvm.exec) {k : Nat} {v : Int64} (hp : pc + 2 = pc') (hd : decode c.code pc = .ok (.lload k, 2)) (hl : Ls[k]? = some (.val (.long v))) (k : own_Goes p e below T (mkF m pc' Ls (.long v :: st)) Q) : own_Goes p e below T (mkF m pc Ls st) Q := by
  subst hp; exact own_step (fun _ q => XT.lload X.here hx rfl hd hl q) k
theorem own_lloadN (X : Stand p l e R s m args below meth c T locs cells slots) (hx : p.tables.exec = Jvm.exec) {k : Fin 4} {v : Int64} (hp : pc + 1 = pc') (hd : decode c.code pc = .ok (.lload_n k, 1)) (hl : Ls[k.val]? = some (.val (.long v))) (k : own_Goes p e below T (mkF m pc' Ls (.long v :: st)) Q) : own_Goes p e below T (mkF m pc Ls st) Q := by
  subst hp; exact own_step (fun _ q => XT.lloadN X.here hx rfl hd hl q) k
theorem own_lstore (X : Stand p l e R s m args below meth c T locs cells slots) (hx : p.tables.exec = Jvm.exec) {k : Nat} {v : Int64} (hp : pc + 2 = pc') (hd : decode c.code pc = .ok (.lstore k, 2)) (hl : storeLocals Ls k (.long v) = some Ls') (k : own_Goes p e below T (mkF m pc' Ls' st) Q) : own_Goes p e below T (mkF m pc Ls (.long v :: st)) Q := by
  subst hp; exact own_step (fun _ q => XT.lstore X.here hx rfl hd rfl hl q) k
theorem own_lstoreN (X : Stand p l e R s m args below meth c T locs cells slots) (hx : p.tables.exec = Jvm.exec) {k : Fin 4} {v : Int64} (hp : pc + 1 = pc') (hd : decode c.code pc = .ok (.lstore_n k, 1)) (hl : storeLocals Ls k.val (.long v) = some Ls') (k : own_Goes p e below T (mkF m pc' Ls' st) Q) : own_Goes p e below T (mkF m pc Ls (.long v :: st)) Q := by
  subst hp; exact own_step (fun _ q => XT.lstoreN X.here hx rfl hd rfl hl q) k
theorem own_aload (X : Stand p l e R s m args below meth c T locs cells slots) (hx : p.tables.exec = Jvm.exec) {k : Nat} {v : Value} (hp : pc + 2 = pc') (hd : decode c.code pc = .ok (.aload k, 2)) (hl : Ls[k]? = some (.val v)) (hv : v.isRef = true) (k : own_Goes p e below T (mkF m pc' Ls (v :: st)) Q) : own_Goes p e below T (mkF m pc Ls st) Q := by
  subst hp; exact own_step (fun _ q => XS.aload X.here hx rfl hd hl hv q) k
theorem own_aloadN (X : Stand p l e R s m args below meth c T locs cells slots) (hx : p.tables.exec = Jvm.exec) {k : Fin 4} {v : Value} (hp : pc + 1 = pc') (hd : decode c.code pc = .ok (.aload_n k, 1)) (hl : Ls[k.val]? = some (.val v)) (hv : v.isRef = true) (k : own_Goes p e below T (mkF m pc' Ls (v :: st)) Q) : own_Goes p e below T (mkF m pc Ls st) Q := by
  subst hp; exact own_step (fun _ q => XS.aloadN X.here hx rfl hd hl hv q) k
theorem own_astore (X : Stand p l e R s m args below meth c T locs cells slots) (hx : p.tables.exec = Jvm.exec) {k : Nat} {v : Value} (hp : pc + 2 = pc') (hd : decode c.code pc = .ok (.astore k, 2)) (hv : v.isRef = true) (hl : storeLocals Ls k v = some Ls') (k : own_Goes p e below T (mkF m pc' Ls' st) Q) : own_Goes p e below T (mkF m pc Ls (v :: st)) Q := by
  subst hp; exact own_step (fun _ q => XS.astore X.here hx rfl hd rfl hv hl q) k
theorem own_astoreN (X : Stand p l e R s m args below meth c T locs cells slots) (hx : p.tables.exec = Jvm.exec) {k : Fin 4} {v : Value} (hp : pc + 1 = pc') (hd : decode c.code pc = .ok (.astore_n k, 1)) (hv : v.isRef = true) (hl : storeLocals Ls k.val v = some Ls') (k : own_Goes p e below T (mkF m pc' Ls' st) Q) : own_Goes p e below T (mkF m pc Ls (v :: st)) Q := by
  subst hp; exact own_step (fun _ q => XS.astoreN X.here hx rfl hd rfl hv hl q) k
theorem own_iconst (X : Stand p l e R s m args below meth c T locs cells slots) (hx : p.tables.exec = Jvm.exec) {i : Int} {v : Int32} (hp : pc + 1 = pc') (hd : decode c.code pc = .ok (.iconst i, 1)) (hv : Int32.ofInt i = v) (k : own_Goes p e below T (mkF m pc' Ls (.int v :: st)) Q) : own_Goes p e below T (mkF m pc Ls st) Q := by
  subst hp; subst hv; exact own_step (fun _ q => XS.iconst X.here hx rfl hd  q) k
theorem own_bipush (X : Stand p l e R s m args below meth c T locs cells slots) (hx : p.tables.exec = Jvm.exec) {i : Int} {v : Int32} (hp : pc + 2 = pc') (hd : decode c.code pc = .ok (.bipush i, 2)) (hv : (Int8.ofInt i).toInt32 = v) (k : own_Goes p e below T (mkF m pc' Ls (.int v :: st)) Q) : own_Goes p e below T (mkF m pc Ls st) Q := by
  subst hp; subst hv; exact own_step (fun _ q => XS.bipush X.here hx rfl hd  q) k
theorem own_sipush (X : Stand p l e R s m args below meth c T locs cells slots) (hx : p.tables.exec = Jvm.exec) {i : Int} {v : Int32} (hp : pc + 3 = pc') (hd : decode c.code pc = .ok (.sipush i, 3)) (hv : (Int16.ofInt i).toInt32 = v) (k : own_Goes p e below T (mkF m pc' Ls (.int v :: st)) Q) : own_Goes p e below T (mkF m pc Ls st) Q := by
  subst hp; subst hv; exact own_step (fun _ q => XS.sipush X.here hx rfl hd  q) k
theorem own_lconst (X : Stand p l e R s m args below meth c T locs cells slots) (hx : p.tables.exec = Jvm.exec) {i : Fin 2} {v : Int64} (hp : pc + 1 = pc') (hd : decode c.code pc = .ok (.lconst i, 1)) (hv : Int64.ofNat i = v) (k : own_Goes p e below T (mkF m pc' Ls (.long v :: st)) Q) : own_Goes p e below T (mkF m pc Ls st) Q := by
  subst hp; subst hv; exact own_step (fun _ q => XT.lconst X.here hx rfl hd  q) k
theorem own_anull (X : Stand p l e R s m args below meth c T locs cells slots) (hx : p.tables.exec = Jvm.exec)  (hp : pc + 1 = pc') (hd : decode c.code pc = .ok (.aconst_null, 1))  (k : own_Goes p e below T (mkF m pc' Ls (.null :: st)) Q) : own_Goes p e below T (mkF m pc Ls st) Q := by
  subst hp; exact own_step (fun _ q => XS.aconstNull X.here hx rfl hd  q) k
theorem own_iadd (X : Stand p l e R s m args below meth c T locs cells slots) (hx : p.tables.exec = Jvm.exec) {x y v : Int32} (hp : pc + 1 = pc') (hd : decode c.code pc = .ok (.iadd, 1)) (hv : x + y = v) (k : own_Goes p e below T (mkF m pc' Ls (.int v :: st)) Q) : own_Goes p e below T (mkF m pc Ls (.int y :: .int x :: st)) Q := by
  subst hp; subst hv; exact own_step (fun _ q => XS.iadd X.here hx rfl hd rfl q) k
theorem own_isub (X : Stand p l e R s m args below meth c T locs cells slots) (hx : p.tables.exec = Jvm.exec) {x y v : Int32} (hp : pc + 1 = pc') (hd : decode c.code pc = .ok (.isub, 1)) (hv : x - y = v) (k : own_Goes p e below T (mkF m pc' Ls (.int v :: st)) Q) : own_Goes p e below T (mkF m pc Ls (.int y :: .int x :: st)) Q := by
  subst hp; subst hv; exact own_step (fun _ q => XS.isub X.here hx rfl hd rfl q) k
theorem own_imul (X : Stand p l e R s m args below meth c T locs cells slots) (hx : p.tables.exec = Jvm.exec) {x y v : Int32} (hp : pc + 1 = pc') (hd : decode c.code pc = .ok (.imul, 1)) (hv : x * y = v) (k : own_Goes p e below T (mkF m pc' Ls (.int v :: st)) Q) : own_Goes p e below T (mkF m pc Ls (.int y :: .int x :: st)) Q := by
  subst hp; subst hv; exact own_step (fun _ q => XS.imul X.here hx rfl hd rfl q) k
theorem own_iand (X : Stand p l e R s m args below meth c T locs cells slots) (hx : p.tables.exec = Jvm.exec) {x y v : Int32} (hp : pc + 1 = pc') (hd : decode c.code pc = .ok (.iand, 1)) (hv : x &&& y = v) (k : own_Goes p e below T (mkF m pc' Ls (.int v :: st)) Q) : own_Goes p e below T (mkF m pc Ls (.int y :: .int x :: st)) Q := by
  subst hp; subst hv; exact own_step (fun _ q => XS.iand X.here hx rfl hd rfl q) k
theorem own_ior (X : Stand p l e R s m args below meth c T locs cells slots) (hx : p.tables.exec = Jvm.exec) {x y v : Int32} (hp : pc + 1 = pc') (hd : decode c.code pc = .ok (.ior, 1)) (hv : x ||| y = v) (k : own_Goes p e below T (mkF m pc' Ls (.int v :: st)) Q) : own_Goes p e below T (mkF m pc Ls (.int y :: .int x :: st)) Q := by
  subst hp; subst hv; exact own_step (fun _ q => XT.ior X.here hx rfl hd rfl q) k
theorem own_ixor (X : Stand p l e R s m args below meth c T locs cells slots) (hx : p.tables.exec = Jvm.exec) {x y v : Int32} (hp : pc + 1 = pc') (hd : decode c.code pc = .ok (.ixor, 1)) (hv : x ^^^ y = v) (k : own_Goes p e below T (mkF m pc' Ls (.int v :: st)) Q) : own_Goes p e below T (mkF m pc Ls (.int y :: .int x :: st)) Q := by
  subst hp; subst hv; exact own_step (fun _ q => XT.ixor X.here hx rfl hd rfl q) k
theorem own_ishl (X : Stand p l e R s m args below meth c T locs cells slots) (hx : p.tables.exec = Jvm.exec) {x y v : Int32} (hp : pc + 1 = pc') (hd : decode c.code pc = .ok (.ishl, 1)) (hv : x <<< (y &&& 31) = v) (k : own_Goes p e below T (mkF m pc' Ls (.int v :: st)) Q) : own_Goes p e below T (mkF m pc Ls (.int y :: .int x :: st)) Q := by
  subst hp; subst hv; exact own_step (fun _ q => XT.ishl X.here hx rfl hd rfl q) k
theorem own_ishr (X : Stand p l e R s m args below meth c T locs cells slots) (hx : p.tables.exec = Jvm.exec) {x y v : Int32} (hp : pc + 1 = pc') (hd : decode c.code pc = .ok (.ishr, 1)) (hv : x >>> (y &&& 31) = v) (k : own_Goes p e below T (mkF m pc' Ls (.int v :: st)) Q) : own_Goes p e below T (mkF m pc Ls (.int y :: .int x :: st)) Q := by
  subst hp; subst hv; exact own_step (fun _ q => XT.ishr X.here hx rfl hd rfl q) k
theorem own_iushr (X : Stand p l e R s m args below meth c T locs cells slots) (hx : p.tables.exec = Jvm.exec) {x y v : Int32} (hp : pc + 1 = pc') (hd : decode c.code pc = .ok (.iushr, 1)) (hv : XT.ushr x y = v) (k : own_Goes p e below T (mkF m pc' Ls (.int v :: st)) Q) : own_Goes p e below T (mkF m pc Ls (.int y :: .int x :: st)) Q := by
  subst hp; subst hv; exact own_step (fun _ q => XT.iushr X.here hx rfl hd rfl q) k
theorem own_idiv (X : Stand p l e R s m args below meth c T locs cells slots) (hx : p.tables.exec = Jvm.exec) {x y v : Int32} (hp : pc + 1 = pc') (hd : decode c.code pc = .ok (.idiv, 1)) (hy : y ≠ 0) (hv : x / y = v) (k : own_Goes p e below T (mkF m pc' Ls (.int v :: st)) Q) : own_Goes p e below T (mkF m pc Ls (.int y :: .int x :: st)) Q := by
  subst hp; subst hv; exact own_step (fun _ q => XS.idiv X.here hx rfl hd rfl hy q) k
theorem own_irem (X : Stand p l e R s m args below meth c T locs cells slots) (hx : p.tables.exec = Jvm.exec) {x y v : Int32} (hp : pc + 1 = pc') (hd : decode c.code pc = .ok (.irem, 1)) (hy : y ≠ 0) (hv : x % y = v) (k : own_Goes p e below T (mkF m pc' Ls (.int v :: st)) Q) : own_Goes p e below T (mkF m pc Ls (.int y :: .int x :: st)) Q := by
  subst hp; subst hv; exact own_step (fun _ q => iremM X hx rfl hd rfl hy q) k
theorem own_ladd (X : Stand p l e R s m args below meth c T locs cells slots) (hx : p.tables.exec = Jvm.exec) {x y v : Int64} (hp : pc + 1 = pc') (hd : decode c.code pc = .ok (.ladd, 1)) (hv : x + y = v) (k : own_Goes p e below T (mkF m pc' Ls (.long v :: st)) Q) : own_Goes p e below T (mkF m pc Ls (.long y :: .long x :: st)) Q := by
  subst hp; subst hv; exact own_step (fun _ q => XT.ladd X.here hx rfl hd rfl q) k
theorem own_lsub (X : Stand p l e R s m args below meth c T locs cells slots) (hx : p.tables.exec = Jvm.exec) {x y v : Int64} (hp : pc + 1 = pc') (hd : decode c.code pc = .ok (.lsub, 1)) (hv : x - y = v) (k : own_Goes p e below T (mkF m pc' Ls (.long v :: st)) Q) : own_Goes p e below T (mkF m pc Ls (.long y :: .long x :: st)) Q := by
  subst hp; subst hv; exact own_step (fun _ q => XT.lsub X.here hx rfl hd rfl q) k
theorem own_lmul (X : Stand p l e R s m args below meth c T locs cells slots) (hx : p.tables.exec = Jvm.exec) {x y v : Int64} (hp : pc + 1 = pc') (hd : decode c.code pc = .ok (.lmul, 1)) (hv : x * y = v) (k : own_Goes p e below T (mkF m pc' Ls (.long v :: st)) Q) : own_Goes p e below T (mkF m pc Ls (.long y :: .long x :: st)) Q := by
  subst hp; subst hv; exact own_step (fun _ q => XT.lmul X.here hx rfl hd rfl q) k
theorem own_land (X : Stand p l e R s m args below meth c T locs cells slots) (hx : p.tables.exec = Jvm.exec) {x y v : Int64} (hp : pc + 1 = pc') (hd : decode c.code pc = .ok (.land, 1)) (hv : x &&& y = v) (k : own_Goes p e below T (mkF m pc' Ls (.long v :: st)) Q) : own_Goes p e below T (mkF m pc Ls (.long y :: .long x :: st)) Q := by
  subst hp; subst hv; exact own_step (fun _ q => XT.land X.here hx rfl hd rfl q) k
theorem own_lor (X : Stand p l e R s m args below meth c T locs cells slots) (hx : p.tables.exec = Jvm.exec) {x y v : Int64} (hp : pc + 1 = pc') (hd : decode c.code pc = .ok (.lor, 1)) (hv : x ||| y = v) (k : own_Goes p e below T (mkF m pc' Ls (.long v :: st)) Q) : own_Goes p e below T (mkF m pc Ls (.long y :: .long x :: st)) Q := by
  subst hp; subst hv; exact own_step (fun _ q => XT.lor X.here hx rfl hd rfl q) k
theorem own_lxor (X : Stand p l e R s m args below meth c T locs cells slots) (hx : p.tables.exec = Jvm.exec) {x y v : Int64} (hp : pc + 1 = pc') (hd : decode c.code pc = .ok (.lxor, 1)) (hv : x ^^^ y = v) (k : own_Goes p e below T (mkF m pc' Ls (.long v :: st)) Q) : own_Goes p e below T (mkF m pc Ls (.long y :: .long x :: st)) Q := by
  subst hp; subst hv; exact own_step (fun _ q => XT.lxor X.here hx rfl hd rfl q) k
theorem own_ldiv (X : Stand p l e R s m args below meth c T locs cells slots) (hx : p.tables.exec = Jvm.exec) {x y v : Int64} (hp : pc + 1 = pc') (hd : decode c.code pc = .ok (.ldiv, 1)) (hy : y ≠ 0) (hv : x / y = v) (k : own_Goes p e below T (mkF m pc' Ls (.long v :: st)) Q) : own_Goes p e below T (mkF m pc Ls (.long y :: .long x :: st)) Q := by
  subst hp; subst hv; exact own_step (fun _ q => XT.ldiv X.here hx rfl hd rfl hy q) k
theorem own_ineg (X : Stand p l e R s m args below meth c T locs cells slots) (hx : p.tables.exec = Jvm.exec) {x v : Int32} (hp : pc + 1 = pc') (hd : decode c.code pc = .ok (.ineg, 1)) (hv : -x = v) (k : own_Goes p e below T (mkF m pc' Ls (.int v :: st)) Q) : own_Goes p e below T (mkF m pc Ls (.int x :: st)) Q := by
  subst hp; subst hv; exact own_step (fun _ q => XS.ineg X.here hx rfl hd rfl q) k
theorem own_lneg (X : Stand p l e R s m args below meth c T locs cells slots) (hx : p.tables.exec = Jvm.exec) {x v : Int64} (hp : pc + 1 = pc') (hd : decode c.code pc = .ok (.lneg, 1)) (hv : -x = v) (k : own_Goes p e below T (mkF m pc' Ls (.long v :: st)) Q) : own_Goes p e below T (mkF m pc Ls (.long x :: st)) Q := by
  subst hp; subst hv; exact own_step (fun _ q => XT.lneg X.here hx rfl hd rfl q) k
theorem own_i2l (X : Stand p l e R s m args below meth c T locs cells slots) (hx : p.tables.exec = Jvm.exec) {x : Int32} {v : Int64} (hp : pc + 1 = pc') (hd : decode c.code pc = .ok (.i2l, 1)) (hv : x.toInt64 = v) (k : own_Goes p e below T (mkF m pc' Ls (.long v :: st)) Q) : own_Goes p e below T (mkF m pc Ls (.int x :: st)) Q := by
  subst hp; subst hv; exact own_step (fun _ q => XT.i2l X.here hx rfl hd rfl q) k
theorem own_l2i (X : Stand p l e R s m args below meth c T locs cells slots) (hx : p.tables.exec = Jvm.exec) {x : Int64} {v : Int32} (hp : pc + 1 = pc') (hd : decode c.code pc = .ok (.l2i, 1)) (hv : x.toInt32 = v) (k : own_Goes p e below T (mkF m pc' Ls (.int v :: st)) Q) : own_Goes p e below T (mkF m pc Ls (.long x :: st)) Q := by
  subst hp; subst hv; exact own_step (fun _ q => XT.l2i X.here hx rfl hd rfl q) k
theorem own_i2b (X : Stand p l e R s m args below meth c T locs cells slots) (hx : p.tables.exec = Jvm.exec) {x v : Int32} (hp : pc + 1 = pc') (hd : decode c.code pc = .ok (.i2b, 1)) (hv : x.toInt8.toInt32 = v) (k : own_Goes p e below T (mkF m pc' Ls (.int v :: st)) Q) : own_Goes p e below T (mkF m pc Ls (.int x :: st)) Q := by
  subst hp; subst hv; exact own_step (fun _ q => XT.i2b X.here hx rfl hd rfl q) k
theorem own_i2c (X : Stand p l e R s m args below meth c T locs cells slots) (hx : p.tables.exec = Jvm.exec) {x v : Int32} (hp : pc + 1 = pc') (hd : decode c.code pc = .ok (.i2c, 1)) (hv : x.toUInt32.toUInt16.toUInt32.toInt32 = v) (k : own_Goes p e below T (mkF m pc' Ls (.int v :: st)) Q) : own_Goes p e below T (mkF m pc Ls (.int x :: st)) Q := by
  subst hp; subst hv; exact own_step (fun _ q => XT.i2c X.here hx rfl hd rfl q) k
theorem own_i2s (X : Stand p l e R s m args below meth c T locs cells slots) (hx : p.tables.exec = Jvm.exec) {x v : Int32} (hp : pc + 1 = pc') (hd : decode c.code pc = .ok (.i2s, 1)) (hv : x.toInt16.toInt32 = v) (k : own_Goes p e below T (mkF m pc' Ls (.int v :: st)) Q) : own_Goes p e below T (mkF m pc Ls (.int x :: st)) Q := by
  subst hp; subst hv; exact own_step (fun _ q => XT.i2s X.here hx rfl hd rfl q) k
theorem own_lcmp (X : Stand p l e R s m args below meth c T locs cells slots) (hx : p.tables.exec = Jvm.exec) {x y : Int64} (hp : pc + 1 = pc') (hd : decode c.code pc = .ok (.lcmp, 1))  (k : own_Goes p e below T (mkF m pc' Ls (.int (XT.cmpL x y) :: st)) Q) : own_Goes p e below T (mkF m pc Ls (.long y :: .long x :: st)) Q := by
  subst hp; exact own_step (fun _ q => XT.lcmp X.here hx rfl hd rfl q) k
theorem own_iinc (X : Stand p l e R s m args below meth c T locs cells slots) (hx : p.tables.exec = Jvm.exec) {n : Nat} {i : Int} {x v : Int32} (hp : pc + 3 = pc') (hd : decode c.code pc = .ok (.iinc n i, 3)) (hl : Ls[n]? = some (.val (.int x))) (hv : x + Int32.ofInt i = v) (hl' : storeLocals Ls n (.int v) = some Ls') (k : own_Goes p e below T (mkF m pc' Ls' st) Q) : own_Goes p e below T (mkF m pc Ls st) Q := by
  subst hp; subst hv; exact own_step (fun _ q => XS.iinc X.here hx rfl hd hl hl' q) k
theorem own_dup (X : Stand p l e R s m args below meth c T locs cells slots) (hx : p.tables.exec = Jvm.exec) {x : Value} (hp : pc + 1 = pc') (hd : decode c.code pc = .ok (.dup, 1)) (hc : x.category = 1) (k : own_Goes p e below T (mkF m pc' Ls (x :: x :: st)) Q) : own_Goes p e below T (mkF m pc Ls (x :: st)) Q := by
  subst hp; exact own_step (fun _ q => XS.dup X.here hx rfl hd rfl hc q) k
theorem own_pop (X : Stand p l e R s m args below meth c T locs cells slots) (hx : p.tables.exec = Jvm.exec) {x : Value} (hp : pc + 1 = pc') (hd : decode c.code pc = .ok (.pop, 1)) (hc : x.category = 1) (k : own_Goes p e below T (mkF m pc' Ls st) Q) : own_Goes p e below T (mkF m pc Ls (x :: st)) Q := by
  subst hp; exact own_step (fun _ q => XT.pop X.here hx rfl hd rfl hc q) k
theorem own_goto (X : Stand p l e R s m args below meth c T locs cells slots) (hx : p.tables.exec = Jvm.exec) {o : Int} (hd : decode c.code pc = .ok (.goto o, 3)) (ho : 0 ≤ (pc : Int) + o) (hp : ((pc : Int) + o).toNat = pc') (k : own_Goes p e below T (mkF m pc' Ls st) Q) : own_Goes p e below T (mkF m pc Ls st) Q := own_step (fun _ q => XS.goto X.here hx rfl (pc0 := pc) (pc' := pc') rfl hd ho hp q) k
theorem own_ifT (X : Stand p l e R s m args below meth c T locs cells slots) (hx : p.tables.exec = Jvm.exec) {cd : ClassFile.Cond} {x : Int32} {o : Int} (hd : decode c.code pc = .ok (.ifCond cd o, 3)) (hc : ifCond.holds cd x = true) (ho : 0 ≤ (pc : Int) + o) (hp : ((pc : Int) + o).toNat = pc') (k : own_Goes p e below T (mkF m pc' Ls st) Q) : own_Goes p e below T (mkF m pc Ls (.int x :: st)) Q := own_step (fun _ q => XS.ifYes X.here hx rfl (pc0 := pc) (pc' := pc') rfl hd rfl hc ho hp q) k
theorem own_ifF (X : Stand p l e R s m args below meth c T locs cells slots) (hx : p.tables.exec = Jvm.exec) {cd : ClassFile.Cond} {x : Int32} {o : Int} (hp : pc + 3 = pc') (hd : decode c.code pc = .ok (.ifCond cd o, 3)) (hc : ifCond.holds cd x = false) (k : own_Goes p e below T (mkF m pc' Ls st) Q) : own_Goes p e below T (mkF m pc Ls (.int x :: st)) Q := by
  subst hp; exact own_step (fun _ q => XS.ifNo X.here hx rfl hd rfl hc q) k
theorem own_icmpT (X : Stand p l e R s m args below meth c T locs cells slots) (hx : p.tables.exec = Jvm.exec) {cd : ClassFile.Cond} {x y : Int32} {o : Int} (hd : decode c.code pc = .ok (.if_icmp cd o, 3)) (hc : if_icmp.holds cd x y = true) (ho : 0 ≤ (pc : Int) + o) (hp : ((pc : Int) + o).toNat = pc') (k : own_Goes p e below T (mkF m pc' Ls st) Q) : own_Goes p e below T (mkF m pc Ls (.int y :: .int x :: st)) Q := own_step (fun _ q => XS.icmpYes X.here hx rfl (pc0 := pc) (pc' := pc') rfl hd rfl hc ho hp q) k
theorem own_icmpF (X : Stand p l e R s m args below meth c T locs cells slots) (hx : p.tables.exec = Jvm.exec) {cd : ClassFile.Cond} {x y : Int32} {o : Int} (hp : pc + 3 = pc') (hd : decode c.code pc = .ok (.if_icmp cd o, 3)) (hc : if_icmp.holds cd x y = false) (k : own_Goes p e below T (mkF m pc' Ls st) Q) : own_Goes p e below T (mkF m pc Ls (.int y :: .int x :: st)) Q := by
  subst hp; exact own_step (fun _ q => XS.icmpNo X.here hx rfl hd rfl hc q) k
theorem own_acmpT (X : Stand p l e R s m args below meth c T locs cells slots) (hx : p.tables.exec = Jvm.exec) {cd : ClassFile.ACond} {x y : Value} {o : Int} (hd : decode c.code pc = .ok (.if_acmp cd o, 3)) (h1 : x.isRef = true) (h2 : y.isRef = true) (hc : XT.acmp cd x y = true) (ho : 0 ≤ (pc : Int) + o) (hp : ((pc : Int) + o).toNat = pc') (k : own_Goes p e below T (mkF m pc' Ls st) Q) : own_Goes p e below T (mkF m pc Ls (y :: x :: st)) Q := own_step (fun _ q => XT.acmpYes X.here hx rfl (pc0 := pc) (pc' := pc') rfl hd rfl h1 h2 hc ho hp q) k
theorem own_acmpF (X : Stand p l e R s m args below meth c T locs cells slots) (hx : p.tables.exec = Jvm.exec) {cd : ClassFile.ACond} {x y : Value} {o : Int} (hp : pc + 3 = pc') (hd : decode c.code pc = .ok (.if_acmp cd o, 3)) (h1 : x.isRef = true) (h2 : y.isRef = true) (hc : XT.acmp cd x y = false) (k : own_Goes p e below T (mkF m pc' Ls st) Q) : own_Goes p e below T (mkF m pc Ls (y :: x :: st)) Q := by
  subst hp; exact own_step (fun _ q => XT.acmpNo X.here hx rfl hd rfl h1 h2 hc q) k
theorem own_ldc (X : Stand p l e R s m args below meth c T locs cells slots) (hx : p.tables.exec = Jvm.exec) (hZ : Z.Warmed39 s.vm) {own : String} {index : Nat} {v : Int32} (hown : s.vm.findClass own = some m.cls) (w : (Jvm.Cond.constant own index v).before a0 Z = true) (hp : pc + 2 = pc') (hd : decode c.code pc = .ok (.ldc index, 2)) (k : own_Goes p e below T (mkF m pc' Ls (.int v :: st)) Q) : own_Goes p e below T (mkF m pc Ls st) Q := by
  subst hp; exact own_step (fun _ q => X.ldcI hx hown (mvT hZ w) rfl hd q) k
theorem own_ldc2_w (X : Stand p l e R s m args below meth c T locs cells slots) (hx : p.tables.exec = Jvm.exec) (hZ : Z.Warmed39 s.vm) {own : String} {index : Nat} {v : Int64} (hown : s.vm.findClass own = some m.cls) (w : (Jvm.Cond.constantLong own index v).before a0 Z = true) (hp : pc + 3 = pc') (hd : decode c.code pc = .ok (.ldc2_w index, 3)) (k : own_Goes p e below T (mkF m pc' Ls (.long v :: st)) Q) : own_Goes p e below T (mkF m pc Ls st) Q := by
  subst hp; exact own_step (fun _ q => X.ldc2J hx hown (mvT hZ w) rfl hd q) k
theorem own_retW (X : Stand p l e R s m args below meth c T locs cells slots) (hx : p.tables.exec = Jvm.exec) (hlk : meth.locks = false) {w : Option Value} (hv : meth.sig.returnType = none → w = none) {F : JFrame} (run : ∀ fs, (∀ (f : JFrame) (acts : List Action), f.method = m → f.locked = none → f.entered = [] → (doReturn e (T.setTop f) acts w).1 = T.setFrames fs) → Steps p.tables e below (T.setTop F) (T.setFrames fs)) {K : Option Value → Heap → List Loc → Prop} {rc rs : Nat} (hc : cells ≤ rc) (hs : slots ≤ rs) (hQ : K w T.heap locs) : own_Goes p e below T F (own_Ret s K rc rs) := by
  obtain ⟨fs, hr, hrun, hended, hW, hsame⟩ := X.leave (v := w) hv hlk
  exact ⟨_, _, run fs hr, hrun, hended, w, locs, rfl, hQ, ⟨_, rfl⟩, hW, hsame.mono hc hs⟩
theorem own_iret (X : Stand p l e R s m args below meth c T locs cells slots) (hx : p.tables.exec = Jvm.exec) (hlk : meth.locks = false) {z : Int32} (hret : meth.sig.returnType = some .int) (hd : decode c.code pc = .ok (.ireturn, 1)) {K : Option Value → Heap → List Loc → Prop} {rc rs : Nat} (hc : cells ≤ rc) (hs : slots ≤ rs) (hQ : K (some (.int z)) T.heap locs) : own_Goes p e below T (mkF m pc Ls (.int z :: st)) (own_Ret s K rc rs) :=
  own_retW X hx hlk (fun q => by rw [hret] at q; cases q) (fun fs hr => retOut X hx hret rfl (Or.inl ⟨rfl, Or.inl rfl, z, rfl⟩) hd hr) hc hs hQ
theorem own_zret (X : Stand p l e R s m args below meth c T locs cells slots) (hx : p.tables.exec = Jvm.exec) (hlk : meth.locks = false) {z : Int32} {t : FieldType} (hret : meth.sig.returnType = some t) (ht : t = .boolean ∨ t = .byte ∨ t = .char ∨ t = .short) (hd : decode c.code pc = .ok (.ireturn, 1)) {K : Option Value → Heap → List Loc → Prop} {rc rs : Nat} (hc : cells ≤ rc) (hs : slots ≤ rs) (hQ : K (some (.int (nar t z))) T.heap locs) : own_Goes p e below T (mkF m pc Ls (.int z :: st)) (own_Ret s K rc rs) :=
  own_retW X hx hlk (fun q => by rw [hret] at q; cases q) (fun fs hr => retN X hx hret ht hd hr) hc hs hQ
theorem own_lret (X : Stand p l e R s m args below meth c T locs cells slots) (hx : p.tables.exec = Jvm.exec) (hlk : meth.locks = false) {z : Int64} (hret : meth.sig.returnType = some .long) (hd : decode c.code pc = .ok (.lreturn, 1)) {K : Option Value → Heap → List Loc → Prop} {rc rs : Nat} (hc : cells ≤ rc) (hs : slots ≤ rs) (hQ : K (some (.long z)) T.heap locs) : own_Goes p e below T (mkF m pc Ls (.long z :: st)) (own_Ret s K rc rs) :=
  own_retW X hx hlk (fun q => by rw [hret] at q; cases q) (fun fs hr => retOut X hx hret rfl (Or.inr (Or.inl ⟨rfl, rfl, z, rfl⟩)) hd hr) hc hs hQ
theorem own_aret (X : Stand p l e R s m args below meth c T locs cells slots) (hx : p.tables.exec = Jvm.exec) (hlk : meth.locks = false) {z : Value} {t : FieldType} (hret : meth.sig.returnType = some t) (ht : t.isReference = true) (hz : z.isRef = true) (hd : decode c.code pc = .ok (.areturn, 1)) {K : Option Value → Heap → List Loc → Prop} {rc rs : Nat} (hc : cells ≤ rc) (hs : slots ≤ rs) (hQ : K (some z) T.heap locs) : own_Goes p e below T (mkF m pc Ls (z :: st)) (own_Ret s K rc rs) :=
  own_retW X hx hlk (fun q => by rw [hret] at q; cases q) (fun fs hr => retOut X hx hret (by cases t <;> simp [FieldType.isReference] at ht <;> cases z <;> simp [Value.isRef] at hz <;> rfl) (Or.inr (Or.inr (Or.inr (Or.inr ⟨rfl, ht, hz⟩)))) hd hr) hc hs hQ
theorem own_ret (X : Stand p l e R s m args below meth c T locs cells slots) (hx : p.tables.exec = Jvm.exec) (hlk : meth.locks = false) (hret : meth.sig.returnType = none) (hd : decode c.code pc = .ok (.return_, 1)) {K : Option Value → Heap → List Loc → Prop} {rc rs : Nat} (hc : cells ≤ rc) (hs : slots ≤ rs) (hQ : K none T.heap locs) : own_Goes p e below T (mkF m pc Ls []) (own_Ret s K rc rs) :=
  own_retW X hx hlk (fun _ => rfl) (fun fs hr => X.returnOut hx hret hd hr) hc hs hQ
theorem own_dload (X : Stand p l e R s m args below meth c T locs cells slots) (hx : p.tables.exec = Jvm.exec) {k : Nat} {v : UInt64} (hp : pc + 2 = pc') (hd : decode c.code pc = .ok (.dload k, 2)) (hl : Ls[k]? = some (.val (.double v))) (k : own_Goes p e below T (mkF m pc' Ls (.double v :: st)) Q) : own_Goes p e below T (mkF m pc Ls st) Q := by
  subst hp; exact own_step (fun _ q => XS.dload X.here hx rfl hd hl q) k
theorem own_dloadN (X : Stand p l e R s m args below meth c T locs cells slots) (hx : p.tables.exec = Jvm.exec) {k : Fin 4} {v : UInt64} (hp : pc + 1 = pc') (hd : decode c.code pc = .ok (.dload_n k, 1)) (hl : Ls[k.val]? = some (.val (.double v))) (k : own_Goes p e below T (mkF m pc' Ls (.double v :: st)) Q) : own_Goes p e below T (mkF m pc Ls st) Q := by
  subst hp; exact own_step (fun _ q => XS.dloadN X.here hx rfl hd hl q) k
theorem own_dstore (X : Stand p l e R s m args below meth c T locs cells slots) (hx : p.tables.exec = Jvm.exec) {k : Nat} {v : UInt64} (hp : pc + 2 = pc') (hd : decode c.code pc = .ok (.dstore k, 2)) (hl : storeLocals Ls k (.double v) = some Ls') (k : own_Goes p e below T (mkF m pc' Ls' st) Q) : own_Goes p e below T (mkF m pc Ls (.double v :: st)) Q := by
  subst hp; exact own_step (fun _ q => XS.dstore X.here hx rfl hd rfl hl q) k
theorem own_dstoreN (X : Stand p l e R s m args below meth c T locs cells slots) (hx : p.tables.exec = Jvm.exec) {k : Fin 4} {v : UInt64} (hp : pc + 1 = pc') (hd : decode c.code pc = .ok (.dstore_n k, 1)) (hl : storeLocals Ls k.val (.double v) = some Ls') (k : own_Goes p e below T (mkF m pc' Ls' st) Q) : own_Goes p e below T (mkF m pc Ls (.double v :: st)) Q := by
  subst hp; exact own_step (fun _ q => XS.dstoreN X.here hx rfl hd rfl hl q) k
theorem own_dconst0 (X : Stand p l e R s m args below meth c T locs cells slots) (hx : p.tables.exec = Jvm.exec) {v : UInt64} (hp : pc + 1 = pc') (hd : decode c.code pc = .ok (.dconst 0, 1)) (hv : FP.dconst0 = v) (k : own_Goes p e below T (mkF m pc' Ls (.double v :: st)) Q) : own_Goes p e below T (mkF m pc Ls st) Q := by
  subst hp; exact own_step (fun _ q => XS.dconst0 X.here hx rfl hd hv q) k
theorem own_dconst1 (X : Stand p l e R s m args below meth c T locs cells slots) (hx : p.tables.exec = Jvm.exec) {v : UInt64} (hp : pc + 1 = pc') (hd : decode c.code pc = .ok (.dconst 1, 1)) (hv : FP.dconst1 = v) (k : own_Goes p e below T (mkF m pc' Ls (.double v :: st)) Q) : own_Goes p e below T (mkF m pc Ls st) Q := by
  subst hp; exact own_step (fun _ q => XS.dconst1 X.here hx rfl hd hv q) k
theorem own_i2d (X : Stand p l e R s m args below meth c T locs cells slots) (hx : p.tables.exec = Jvm.exec) {x : Int32} {v : UInt64} (hp : pc + 1 = pc') (hd : decode c.code pc = .ok (.i2d, 1)) (hv : FP.i2d x = v) (k : own_Goes p e below T (mkF m pc' Ls (.double v :: st)) Q) : own_Goes p e below T (mkF m pc Ls (.int x :: st)) Q := by
  subst hp; exact own_step (fun _ q => XS.i2dS X.here hx rfl hd rfl hv q) k
theorem own_l2d (X : Stand p l e R s m args below meth c T locs cells slots) (hx : p.tables.exec = Jvm.exec) {x : Int64} {v : UInt64} (hp : pc + 1 = pc') (hd : decode c.code pc = .ok (.l2d, 1)) (hv : FP.l2d x = v) (k : own_Goes p e below T (mkF m pc' Ls (.double v :: st)) Q) : own_Goes p e below T (mkF m pc Ls (.long x :: st)) Q := by
  subst hp; exact own_step (fun _ q => XS.l2dS X.here hx rfl hd rfl hv q) k
theorem own_dneg (X : Stand p l e R s m args below meth c T locs cells slots) (hx : p.tables.exec = Jvm.exec) {x v : UInt64} (hp : pc + 1 = pc') (hd : decode c.code pc = .ok (.dneg, 1)) (hv : FP.dneg x = v) (k : own_Goes p e below T (mkF m pc' Ls (.double v :: st)) Q) : own_Goes p e below T (mkF m pc Ls (.double x :: st)) Q := by
  subst hp; exact own_step (fun _ q => XS.dnegS X.here hx rfl hd rfl hv q) k
theorem own_dcmp (X : Stand p l e R s m args below meth c T locs cells slots) (hx : p.tables.exec = Jvm.exec) {o : CmpOp} {x y : UInt64} {v : Int32} (hp : pc + 1 = pc') (hd : decode c.code pc = .ok (.dcmp o, 1)) (hv : cmpValue (FP.dcmp x y) o = v) (k : own_Goes p e below T (mkF m pc' Ls (.int v :: st)) Q) : own_Goes p e below T (mkF m pc Ls (.double y :: .double x :: st)) Q := by
  subst hp; exact own_step (fun _ q => XS.dcmpS X.here hx rfl hd rfl hv q) k
theorem own_dadd (X : Stand p l e R s m args below meth c T locs cells slots) (hx : p.tables.exec = Jvm.exec) {x y v : UInt64} (hp : pc + 1 = pc') (hd : decode c.code pc = .ok (.dadd, 1)) (hn : Jvm.Free.Fl.NoNaN64 (FP.dadd x y)) (hv : FP.dadd x y = v) (k : own_Goes p e below T (mkF m pc' Ls (.double v :: st)) Q) : own_Goes p e below T (mkF m pc Ls (.double y :: .double x :: st)) Q := by
  subst hp; exact own_step (fun _ q => XS.daddS X.here hx rfl hd rfl hn hv q) k
theorem own_dsub (X : Stand p l e R s m args below meth c T locs cells slots) (hx : p.tables.exec = Jvm.exec) {x y v : UInt64} (hp : pc + 1 = pc') (hd : decode c.code pc = .ok (.dsub, 1)) (hn : Jvm.Free.Fl.NoNaN64 (FP.dsub x y)) (hv : FP.dsub x y = v) (k : own_Goes p e below T (mkF m pc' Ls (.double v :: st)) Q) : own_Goes p e below T (mkF m pc Ls (.double y :: .double x :: st)) Q := by
  subst hp; exact own_step (fun _ q => XS.dsubS X.here hx rfl hd rfl hn hv q) k
theorem own_dmul (X : Stand p l e R s m args below meth c T locs cells slots) (hx : p.tables.exec = Jvm.exec) {x y v : UInt64} (hp : pc + 1 = pc') (hd : decode c.code pc = .ok (.dmul, 1)) (hn : Jvm.Free.Fl.NoNaN64 (FP.dmul x y)) (hv : FP.dmul x y = v) (k : own_Goes p e below T (mkF m pc' Ls (.double v :: st)) Q) : own_Goes p e below T (mkF m pc Ls (.double y :: .double x :: st)) Q := by
  subst hp; exact own_step (fun _ q => XS.dmulS X.here hx rfl hd rfl hn hv q) k
theorem own_ddiv (X : Stand p l e R s m args below meth c T locs cells slots) (hx : p.tables.exec = Jvm.exec) {x y v : UInt64} (hp : pc + 1 = pc') (hd : decode c.code pc = .ok (.ddiv, 1)) (hn : Jvm.Free.Fl.NoNaN64 (FP.ddiv x y)) (hv : FP.ddiv x y = v) (k : own_Goes p e below T (mkF m pc' Ls (.double v :: st)) Q) : own_Goes p e below T (mkF m pc Ls (.double y :: .double x :: st)) Q := by
  subst hp; exact own_step (fun _ q => XS.ddivS X.here hx rfl hd rfl hn hv q) k
theorem own_ldcD (X : Stand p l e R s m args below meth c T locs cells slots) (hx : p.tables.exec = Jvm.exec) (hZ : Z.Warmed39 s.vm) {own : String} {index : Nat} {v : UInt64} (hown : s.vm.findClass own = some m.cls) (w : (Jvm.Cond.constantDouble own index v).before a0 Z = true) (hp : pc + 3 = pc') (hd : decode c.code pc = .ok (.ldc2_w index, 3)) (k : own_Goes p e below T (mkF m pc' Ls (.double v :: st)) Q) : own_Goes p e below T (mkF m pc Ls st) Q := by
  subst hp; exact own_step (fun t q => X.ldc2DoubleC hx hown (mvT hZ w) (g := mkF m pc Ls st) rfl hd t q) k
theorem own_dret (X : Stand p l e R s m args below meth c T locs cells slots) (hx : p.tables.exec = Jvm.exec) (hlk : meth.locks = false) {z : UInt64} (hret : meth.sig.returnType = some .double) (hd : decode c.code pc = .ok (.dreturn, 1)) {K : Option Value → Heap → List Loc → Prop} {rc rs : Nat} (hc : cells ≤ rc) (hs : slots ≤ rs) (hQ : K (some (.double z)) T.heap locs) : own_Goes p e below T (mkF m pc Ls (.double z :: st)) (own_Ret s K rc rs) :=
  own_retW X hx hlk (fun q => by rw [hret] at q; cases q) (fun fs hr => retOut X hx hret rfl (Or.inr (Or.inr (Or.inl ⟨rfl, rfl, z, rfl⟩))) hd hr) hc hs hQ
theorem own_getF (X : Stand p l e R s m args below meth c T locs cells slots) (hx : p.tables.exec = Jvm.exec) (hZ : Z.Warmed39 s.vm) {own R0 O n d host : String} {index : Nat} (hown : s.vm.findClass own = some m.cls) (w : (Jvm.Cond.fieldLink own index R0 n d).before a0 Z = true ∨ (Jvm.Cond.fieldLinkNest own index R0 n d host).before a0 Z = true) (via : Via Z R0 O n d) (eT : T.heap = h) {a : Addr} {v : Value} (F : Fld Z h a O n d v) (hp : pc + 3 = pc') (hd : decode c.code pc = .ok (.getfield index, 3))
    (k : ∀ T', Stand p l e R s m args below meth c T' locs cells slots → T'.heap = h → own_Goes p e below T' (mkF m pc' Ls (v :: st)) Q) : own_Goes p e below T (mkF m pc Ls (.ref a :: st)) Q := by
  subst hp
  obtain ⟨T', X', e', stp⟩ := getF X hx hZ hown w via eT F (g := mkF m pc Ls (.ref a :: st)) rfl rfl hd
  exact own_step stp (k T' X' e')
theorem own_putF (X : Stand p l e R s m args below meth c T locs cells slots) (hx : p.tables.exec = Jvm.exec) (hZ : Z.Warmed39 s.vm) {own R0 O n d host C : String} {index kk : Nat} {ty : FieldType} (hown : s.vm.findClass own = some m.cls) (w : (Jvm.Cond.fieldLink own index R0 n d).before a0 Z = true ∨ (Jvm.Cond.fieldLinkNest own index R0 n d host).before a0 Z = true) (via : Via Z R0 O n d) (eT : T.heap = h) {a : Addr} {v old : Value} (F : Fld Z h a O n d old) (E : Exa Z h a C)
    (L : (Jvm.Cond.lays C O n d).before a0 Z = true ∨ ((Jvm.Cond.laysFinal C O n d).before a0 Z = true ∧ own = O ∧ meth.name = "<init>")) (wi : (Jvm.Cond.instantiable C kk).before a0 Z = true) (hty : parseFieldDescriptor d = some ty) (hn : narrow ty v = v) (hf : fits ty v = true) (hp : pc + 3 = pc') (hd : decode c.code pc = .ok (.putfield index, 3))
    (k : ∀ T' h', Stand p l e R s m args below meth c T' (locs ++ [⟨a, Jvm.RoadKit.slotOf Z O n d⟩]) cells slots → T'.heap = h' → Wr h h' a (Jvm.RoadKit.slotOf Z O n d) v → own_Goes p e below T' (mkF m pc' Ls st) Q) : own_Goes p e below T (mkF m pc Ls (v :: .ref a :: st)) Q := by
  subst hp
  obtain ⟨T', h', X', e', W', stp⟩ := putF X hx hZ hown w via eT F E L wi hty hn hf (g := mkF m pc Ls (v :: .ref a :: st)) rfl rfl hd
  exact own_step stp (k T' h' X' e' W')
theorem own_getS (X : Stand p l e R s m args below meth c T locs cells slots) (hx : p.tables.exec = Jvm.exec) (hZ : Z.Warmed39 s.vm) {own R0 O n d : String} {index : Nat} (hown : s.vm.findClass own = some m.cls) (w : (Jvm.Cond.fieldLink own index R0 n d).before a0 Z = true) (via : Via Z R0 O n d) (eT : T.heap = h) {v : Value} (F : Sta Z h O n d v) (hp : pc + 3 = pc') (hd : decode c.code pc = .ok (.getstatic index, 3))
    (k : ∀ T', Stand p l e R s m args below meth c T' locs cells slots → T'.heap = h → own_Goes p e below T' (mkF m pc' Ls (v :: st)) Q) : own_Goes p e below T (mkF m pc Ls st) Q := by
  subst hp
  obtain ⟨T', X', e', stp⟩ := getS X hx hZ (host := "") hown w via eT F (g := mkF m pc Ls st) rfl hd
  exact own_step stp (k T' X' e')
theorem own_new (X : Stand p l e R s m args below meth c T locs cells slots) (hx : p.tables.exec = Jvm.exec) (hZ : Z.Warmed39 s.vm) {own C : String} {index n : Nat} (hown : s.vm.findClass own = some m.cls) (w : (Jvm.Cond.classLink own index C).before a0 Z = true) (wi : (Jvm.Cond.instantiable C n).before a0 Z = true) (wz : (Jvm.Cond.initialized C).before a0 Z = true) (eT : T.heap = h) (hp : pc + 3 = pc') (hd : decode c.code pc = .ok (.new index, 3)) (hc : cells + 1 ≤ R.cells) (hl : slots + n ≤ R.slots)
    (k : ∀ T' h', Stand p l e R s m args below meth c T' locs (cells + 1) (slots + n) → T'.heap = h' → Ext h h' → Exa Z h' h.size C → (∀ {O nm d : String} {ty : FieldType}, Laid Z a0 C O nm d → parseFieldDescriptor d = some ty → Fld Z h' h.size O nm d (defaultValue ty)) → own_Goes p e below T' (mkF m pc' Ls (.ref h.size :: st)) Q) : own_Goes p e below T (mkF m pc Ls st) Q := by
  subst hp
  obtain ⟨T', h', X', e', E', A', D', -, stp⟩ := newO X hx hZ hown w wi wz eT (g := mkF m pc Ls st) rfl hd hc hl
  exact own_step stp (k T' h' X' e' E' A' D')
theorem own_initO (X : Stand p l e R s m args below meth c T locs cells slots) (hx : p.tables.exec = Jvm.exec) (hZ : Z.Warmed39 s.vm) {own : String} {idx : Nat} (hown : s.vm.findClass own = some m.cls) (w1 : (Jvm.Cond.methodLink own idx Lib.objectInit).before a0 Z = true) (w2 : (Jvm.Cond.instanceMethod Lib.objectInit).before a0 Z = true) (w3 : (Jvm.Cond.code Lib.objectInit ⟨#[0xb1]⟩ 1 none).before a0 Z = true) (eT : T.heap = h) (hsize : Ls.size = c.maxLocals) {a : Addr} (hp : pc + 3 = pc') (hd : decode c.code pc = .ok (.invokespecial idx, 3)) (hf : 1 ≤ R.frames) {W : Nat} (hW : (st.map fun v => v.category).sum ≤ W) (hl : W + 12 ≤ R.locals)
    (k : ∀ T', Stand p l e R s m args below meth c T' locs cells slots → T'.heap = h → own_Goes p e below T' (mkF m pc' Ls st) Q) : own_Goes p e below T (mkF m pc Ls (.ref a :: st)) Q := by
  subst hp
  obtain ⟨T', X', e', stp⟩ := initO X hx hZ hown w1 w2 w3 eT (g := mkF m pc Ls (.ref a :: st)) rfl hsize rfl hd hf (W := W) (by show 2 * 0 + _ ≤ _; omega) hl
  exact own_step stp (k T' X' e')
theorem own_callS (X : Stand p l e R s m args below meth c T locs cells slots) (hx : p.tables.exec = Jvm.exec) (hZ : Z.Warmed39 s.vm) {own : String} {index : Nat} {y : MethodName} {bytes : ByteArray} {maxL : Nat} {rt : Option FieldType} (hown : s.vm.findClass own = some m.cls) (w1 : (Jvm.Cond.methodLink own index y).before a0 Z = true) (w2 : (Jvm.Cond.static y).before a0 Z = true) (w3 : (Jvm.Cond.initialized y.cls).before a0 Z = true) (w4 : (Jvm.Cond.code y bytes maxL rt).before a0 Z = true) (hy : y.cls ≠ "java/lang/invoke/MethodHandle" ∧ y.cls ≠ "java/lang/invoke/VarHandle") {rm : Room} {as' : Array Value} {K : Option Value → Heap → List Loc → Prop} {W : Nat} (hM : MetFree l y (head1 [Jvm.Cond.code y bytes maxL rt] rm) (fun a U => a = as' ∧ Z.Warmed39 U.vm ∧ U.heap = h) (fun _ _ _ _ _ => True) (fun _ U o U' => ∃ v L, o = .returned v ∧ K v U'.heap L ∧ FrameEnd U o U' L rm.cells rm.slots)) (hf : rm.frames + 1 ≤ R.frames) (hl : W + (maxL + 11) + rm.locals ≤ R.locals) (hc : cells + rm.cells ≤ R.cells) (hs : slots + rm.slots ≤ R.slots) (eT : T.heap = h) (hsize : Ls.size = c.maxLocals) {argsL rest : List Value} (has : argsL.toArray = as') (hlen : ∀ sig, parseMethodDescriptor y.desc = some sig → argsL.length = sig.parameters.length) (hst : st = argsL.reverse ++ rest) (hW : (rest.map fun v => v.category).sum ≤ W) (hp : pc + 3 = pc') (hd : decode c.code pc = .ok (.invokestatic index, 3))
    (k : ∀ v T' L, Stand p l e R s m args below meth c T' (locs ++ L) (cells + rm.cells) (slots + rm.slots) → K v T'.heap L → own_Goes p e below T' (mkF m pc' Ls (v.toList ++ rest)) Q) : own_Goes p e below T (mkF m pc Ls st) Q := by
  subst hp
  obtain ⟨v, _, ⟨T', L', k', n'⟩, -, X', ⟨Lc, hQ, l1, y1, z1⟩, stp⟩ := Jvm.LawKit.callS X hx (y := y) hown (mvT hZ w1) (mvT hZ w2) (mvT hZ w3) (mvT hZ w4) hy (backOf (W := W) hM hZ w4 w3 hf hl) (g := mkF m pc Ls st) rfl hsize (argsL := argsL) (rest := rest) hlen hst (by show 2 * 0 + _ ≤ _; omega) hd (fun _ _ => ⟨has, eT, hc, hs⟩)
  dsimp only [Pt.U, Pt.locs, Pt.cells, Pt.slots] at X' l1 y1 z1 stp hQ
  subst l1 y1 z1
  exact own_step stp (k v T' Lc X' hQ)
theorem own_callC (X : Stand p l e R s m args below meth c T locs cells slots) (hx : p.tables.exec = Jvm.exec) (hZ : Z.Warmed39 s.vm) {own : String} {index : Nat} {y : MethodName} {bytes : ByteArray} {maxL : Nat} {a : Addr} (hy1 : y.name = "<init>") (hown : s.vm.findClass own = some m.cls) (w1 : (Jvm.Cond.methodLink own index y).before a0 Z = true) (w2 : (Jvm.Cond.instanceMethod y).before a0 Z = true) (w3 : (Jvm.Cond.initialized y.cls).before a0 Z = true) (w4 : (Jvm.Cond.code y bytes maxL none).before a0 Z = true) (hy : y.cls ≠ "java/lang/invoke/MethodHandle" ∧ y.cls ≠ "java/lang/invoke/VarHandle") {rm : Room} {as' : Array Value} {K : Option Value → Heap → List Loc → Prop} {W : Nat} (hM : MetFree l y (head1 [Jvm.Cond.code y bytes maxL none] rm) (fun a U => a = as' ∧ Z.Warmed39 U.vm ∧ U.heap = h) (fun _ _ _ _ _ => True) (fun _ U o U' => ∃ v L, o = .returned v ∧ K v U'.heap L ∧ FrameEnd U o U' L rm.cells rm.slots)) (hf : rm.frames + 1 ≤ R.frames) (hl : W + (maxL + 11) + rm.locals ≤ R.locals) (hc : cells + rm.cells ≤ R.cells) (hs : slots + rm.slots ≤ R.slots) (eT : T.heap = h) (hsize : Ls.size = c.maxLocals) {argsL rest : List Value} (has : (Value.ref a :: argsL).toArray = as') (hlen : ∀ sig, parseMethodDescriptor y.desc = some sig → argsL.length = sig.parameters.length) (hst : st = argsL.reverse ++ .ref a :: rest) (hW : (rest.map fun v => v.category).sum ≤ W) (hp : pc + 3 = pc') (hd : decode c.code pc = .ok (.invokespecial index, 3))
    (k : ∀ v T' L, Stand p l e R s m args below meth c T' (locs ++ L) (cells + rm.cells) (slots + rm.slots) → K v T'.heap L → own_Goes p e below T' (mkF m pc' Ls (v.toList ++ rest)) Q) : own_Goes p e below T (mkF m pc Ls st) Q := by
  subst hp
  obtain ⟨v, _, ⟨T', L', k', n'⟩, -, X', ⟨Lc, hQ, l1, y1, z1⟩, stp⟩ := X.specialBack hx (y := y) hy1 hown (mvT hZ w1) (mvT hZ w2) (mvT hZ w4) hy (backOf (W := W) hM hZ w4 w3 hf hl) (g := mkF m pc Ls st) rfl hsize (Steps.refl _) (a := a) (argsL := argsL) (rest := rest) hlen hst (by show 2 * 0 + _ ≤ _; omega) hd (fun _ _ => ⟨has, eT, hc, hs⟩)
  dsimp only [Pt.U, Pt.locs, Pt.cells, Pt.slots] at X' l1 y1 z1 stp hQ
  subst l1 y1 z1
  exact own_step (fun _ q => stp.trans q) (k v T' Lc X' hQ)
theorem own_callV (X : Stand p l e R s m args below meth c T locs cells slots) (hx : p.tables.exec = Jvm.exec) (hZ : Z.Warmed39 s.vm) {own C : String} {index : Nat} {y : MethodName} {bytes : ByteArray} {maxL : Nat} {rt : Option FieldType} {a : Addr} (hown : s.vm.findClass own = some m.cls) (w1 : (Jvm.Cond.methodLink own index y).before a0 Z = true) (w2 : (Jvm.Cond.declares y).before a0 Z = true) (w5 : (Jvm.Cond.selects C y y).before a0 Z = true) (w6 : (Jvm.Cond.instanceMethod y).before a0 Z = true) (w3 : (Jvm.Cond.initialized y.cls).before a0 Z = true) (w4 : (Jvm.Cond.code y bytes maxL rt).before a0 Z = true) (E : Exa Z h a C) (hy : y.cls ≠ "java/lang/invoke/MethodHandle" ∧ y.cls ≠ "java/lang/invoke/VarHandle") {rm : Room} {as' : Array Value} {K : Option Value → Heap → List Loc → Prop} {W : Nat} (hM : MetFree l y (head1 [Jvm.Cond.code y bytes maxL rt] rm) (fun a U => a = as' ∧ Z.Warmed39 U.vm ∧ U.heap = h) (fun _ _ _ _ _ => True) (fun _ U o U' => ∃ v L, o = .returned v ∧ K v U'.heap L ∧ FrameEnd U o U' L rm.cells rm.slots)) (hf : rm.frames + 1 ≤ R.frames) (hl : W + (maxL + 11) + rm.locals ≤ R.locals) (hc : cells + rm.cells ≤ R.cells) (hs : slots + rm.slots ≤ R.slots) (eT : T.heap = h) (hsize : Ls.size = c.maxLocals) {argsL rest : List Value} (has : (Value.ref a :: argsL).toArray = as') (hlen : ∀ sig, parseMethodDescriptor y.desc = some sig → argsL.length = sig.parameters.length) (hst : st = argsL.reverse ++ .ref a :: rest) (hW : (rest.map fun v => v.category).sum ≤ W) (hp : pc + 3 = pc') (hd : decode c.code pc = .ok (.invokevirtual index, 3))
    (k : ∀ v T' L, Stand p l e R s m args below meth c T' (locs ++ L) (cells + rm.cells) (slots + rm.slots) → K v T'.heap L → own_Goes p e below T' (mkF m pc' Ls (v.toList ++ rest)) Q) : own_Goes p e below T (mkF m pc Ls st) Q := by
  subst hp
  obtain ⟨cq, kq, qa, qb, qc⟩ := isOf hZ eT E
  obtain ⟨v, _, ⟨T', L', k', n'⟩, -, X', ⟨Lc, hQ, l1, y1, z1⟩, stp⟩ := X.virtualBack hx (y := y) (z := y) hown (mvT hZ w1) (mvT hZ w2) (notFace_of_selects (args := #[]) (mvT hZ w5)) (mvT hZ w5) (mvT hZ w6) hy (backOf (W := W) hM hZ w4 w3 hf hl) qa qc (g := mkF m pc Ls st) rfl hsize (Steps.refl _) (argsL := argsL) (rest := rest) hlen hst (by show 2 * 0 + _ ≤ _; omega) hd (fun _ _ => ⟨has, eT, hc, hs⟩)
  dsimp only [Pt.U, Pt.locs, Pt.cells, Pt.slots] at X' l1 y1 z1 stp hQ
  subst l1 y1 z1
  exact own_step (fun _ q => stp.trans q) (k v T' Lc X' hQ)
theorem own_callP (X : Stand p l e R s m args below meth c T locs cells slots) (hx : p.tables.exec = Jvm.exec) (hZ : Z.Warmed39 s.vm) {own C : String} {index : Nat} {y z z' : MethodName} {bytes : ByteArray} {maxL : Nat} {rt : Option FieldType} {a : Addr} {D : String} (hown : s.vm.findClass own = some m.cls) (w1 : (Jvm.Cond.methodLink own index y).before a0 Z = true) (w6 : (Jvm.Cond.instanceMethod y).before a0 Z = true) (w7 : (Jvm.Cond.privateMethod y).before a0 Z = true) (w5 : (Jvm.Cond.selects C z z').before a0 Z = true) (hcls : z'.cls = y.cls) (w3 : (Jvm.Cond.initialized y.cls).before a0 Z = true) (w4 : (Jvm.Cond.code y bytes maxL rt).before a0 Z = true) (E : Exa Z h a D) (hy : y.cls ≠ "java/lang/invoke/MethodHandle" ∧ y.cls ≠ "java/lang/invoke/VarHandle") {rm : Room} {as' : Array Value} {K : Option Value → Heap → List Loc → Prop} {W : Nat} (hM : MetFree l y (head1 [Jvm.Cond.code y bytes maxL rt] rm) (fun a U => a = as' ∧ Z.Warmed39 U.vm ∧ U.heap = h) (fun _ _ _ _ _ => True) (fun _ U o U' => ∃ v L, o = .returned v ∧ K v U'.heap L ∧ FrameEnd U o U' L rm.cells rm.slots)) (hf : rm.frames + 1 ≤ R.frames) (hl : W + (maxL + 11) + rm.locals ≤ R.locals) (hc : cells + rm.cells ≤ R.cells) (hs : slots + rm.slots ≤ R.slots) (eT : T.heap = h) (hsize : Ls.size = c.maxLocals) {argsL rest : List Value} (has : (Value.ref a :: argsL).toArray = as') (hlen : ∀ sig, parseMethodDescriptor y.desc = some sig → argsL.length = sig.parameters.length) (hst : st = argsL.reverse ++ .ref a :: rest) (hW : (rest.map fun v => v.category).sum ≤ W) (hp : pc + 3 = pc') (hd : decode c.code pc = .ok (.invokevirtual index, 3))
    (k : ∀ v T' L, Stand p l e R s m args below meth c T' (locs ++ L) (cells + rm.cells) (slots + rm.slots) → K v T'.heap L → own_Goes p e below T' (mkF m pc' Ls (v.toList ++ rest)) Q) : own_Goes p e below T (mkF m pc Ls st) Q := by
  subst hp
  have hs5 : (Jvm.Cond.selects C z z').before args s = true := mvT hZ w5
  obtain ⟨c2, r2, m2, -, -, q3, -, kP, hkP, hkPi⟩ := Cond.selects_spec hs5
  have hc2 : s.vm.findClass y.cls = some m2.cls := hcls ▸ findClass_of_methodNamed q3
  have hpriv := Cond.privateMethod_at (mvP hZ w7 (args := #[]))
  have hinst : (Jvm.Cond.instanceMethod y).before args s = true := mvT hZ w6
  have hsel := selects_self_of_private (args := args) hc2 hkP hkPi hpriv hinst hy
  obtain ⟨cq, qc, qc'⟩ := E.cell
  obtain ⟨v, _, ⟨T', L', k', n'⟩, -, X', ⟨Lc, hQ, l1, y1, z1⟩, stp⟩ := X.privateBack hx (y := y) hown (mvT hZ w1) hinst hsel hpriv (mvT hZ w4) hy (backOf (W := W) hM hZ w4 w3 hf hl) (g := mkF m pc Ls st) rfl hsize (Steps.refl _) (a := a) (cell := cq) (by rw [eT]; exact qc) qc' (argsL := argsL) (rest := rest) hlen hst (by show 2 * 0 + _ ≤ _; omega) hd (fun _ _ => ⟨has, eT, hc, hs⟩)
  dsimp only [Pt.U, Pt.locs, Pt.cells, Pt.slots] at X' l1 y1 z1 stp hQ
  subst l1 y1 z1
  exact own_step (fun _ q => stp.trans q) (k v T' Lc X' hQ)
theorem own_in {j : Int32} {k n : Nat} (hj : ¬ j < 0) (hk : j.toNatClampNeg = k) (hn : k < n) {cl : Cell} (hs : cl.slots.size = n) : ¬ (j < 0 ∨ cl.slots.size ≤ j.toNatClampNeg) := by
  rintro (q | q)
  · exact hj q
  · omega
theorem own_Arr.lt {a : Addr} {ty : FieldType} {n : Nat} {f : Nat → Value} (A : own_Arr Z h a ty n f) : a < h.size := by obtain ⟨c, A, -⟩ := A; exact A.lt
theorem own_Arr.ext {a : Addr} {ty : FieldType} {n : Nat} {f : Nat → Value} (E : Ext h h') (A : own_Arr Z h a ty n f) : own_Arr Z h' a ty n f := by obtain ⟨c, A, r⟩ := A; exact ⟨c, A.ext E, r⟩
theorem own_Arr.other {a b : Addr} {ty : FieldType} {n sl : Nat} {v : Value} {f : Nat → Value} (W : Wr h h' a sl v) (A : own_Arr Z h b ty n f) (q : b ≠ a) : own_Arr Z h' b ty n f := by obtain ⟨c, A, r⟩ := A; exact ⟨c, A.other W q, r⟩
theorem own_Arr.keep {a : Addr} {ty : FieldType} {n : Nat} {ws : List Addr} {f : Nat → Value} (K : Keep h h' ws) (A : own_Arr Z h a ty n f) (q : a ∉ ws) : own_Arr Z h' a ty n f := by obtain ⟨c, A, r⟩ := A; exact ⟨c, ⟨K.2.1 a c A.1 q, A.2⟩, r⟩
theorem own_Arr.congr {a : Addr} {ty : FieldType} {n : Nat} {f g : Nat → Value} (A : own_Arr Z h a ty n f) (q : ∀ j, j < n → f j = g j) : own_Arr Z h a ty n g := by
  obtain ⟨c, A, r1, r2, r3⟩ := A
  exact ⟨c, A, r1, r2, fun j hj => by rw [r3 j hj, q j hj]⟩
theorem own_sizWr {a : Addr} {sl n0 : Nat} {v : Value} (W : Wr h h' a sl v) (q : n0 ≤ h.size) : n0 ≤ h'.size := by rw [W.size]; exact q
theorem own_Arr.set {a : Addr} {ty : FieldType} {n k : Nat} {f : Nat → Value} {v : Value} {cl : Cell} (A : Arr Z h a cl ty) (r1 : cl.slots.size = n) (r2 : n < 2 ^ 31) (r3 : ∀ j, j < n → cl.slots[j]? = some (f j)) (hk : k < n) (W : Wr h h' a k v) : own_Arr Z h' a ty n (own_upd f k v) := by
  refine ⟨cl.setSlot k v, Arr.same W A, by rw [sz_set]; exact r1, r2, fun j hj => ?_⟩
  show (cl.slots.setIfInBounds k v)[j]? = _
  rw [Array.getElem?_setIfInBounds]
  by_cases q : k = j
  · subst q; simp [own_upd, r1, hk]
  · have q' : ¬ j = k := fun z => q z.symm
    simp [own_upd, q, q', r3 j hj]
theorem own_newarr (X : Stand p l e R s m args below meth c T locs cells slots) (hx : p.tables.exec = Jvm.exec) (hZ : Z.Warmed39 s.vm) {aty : ArrayType} (w : (Jvm.Cond.arrayClass (newarray.typeOf aty)).before a0 Z = true) (eT : T.heap = h) {n : Int32} (hp : pc + 2 = pc') (hd : decode c.code pc = .ok (.newarray aty, 2)) (hn : ¬ n < 0) {N : Nat} (hN : n.toNatClampNeg = N) {cap : Nat} (hcap : n.toNatClampNeg ≤ cap) (hb : cap * 8 ≤ 536870912) (hc : cells + 1 ≤ R.cells) (hl : slots + cap ≤ R.slots)
    (k : ∀ T' h', Stand p l e R s m args below meth c T' locs (cells + 1) (slots + cap) → T'.heap = h' → Ext h h' → own_Arr Z h' h.size (newarray.typeOf aty) N (fun _ => defaultValue (newarray.typeOf aty)) → own_Goes p e below T' (mkF m pc' Ls (.ref h.size :: st)) Q) : own_Goes p e below T (mkF m pc Ls (.int n :: st)) Q := by
  subst hp
  obtain ⟨T', h', cA, X', e', E', A', stp⟩ := newP X hx hZ w eT (g := mkF m pc Ls (.int n :: st)) rfl hd rfl hn hcap hb hc hl
  refine own_step stp (k T' h' X' e' E' ⟨_, A', by rw [sz_new, hN], by rw [← hN]; exact (back32 hn).2, fun j hj => ?_⟩)
  simp [newA, hN, hj]
theorem own_stI (X : Stand p l e R s m args below meth c T locs cells slots) (hx : p.tables.exec = Jvm.exec) (hZ : Z.Warmed39 s.vm) (eT : T.heap = h) {a : Addr} {n k : Nat} {f : Nat → Value} (A : own_Arr Z h a .int n f) {j : Int32} {x : Int32} (hj : ¬ j < 0) (hk : j.toNatClampNeg = k) (hn : k < n)  (hp : pc + 1 = pc') (hd : decode c.code pc = .ok (.iastore, 1))
    (q : ∀ T' h', Stand p l e R s m args below meth c T' (locs ++ [⟨a, k⟩]) cells slots → T'.heap = h' → Wr h h' a k (.int x) → own_Arr Z h' a .int n (own_upd f k (.int x)) → own_Goes p e below T' (mkF m pc' Ls st) Q) : own_Goes p e below T (mkF m pc Ls (.int x :: .int j :: .ref a :: st)) Q := by
  subst hp
  obtain ⟨cl, A, r1, r2, r3⟩ := A
  obtain ⟨T', h', X', e', W', stp⟩ := stI X hx hZ eT A (own_in hj hk hn r1) (g := mkF m pc Ls (.int x :: .int j :: .ref a :: st)) rfl rfl hd
  subst hk
  exact own_step stp (q T' h' X' e' W' (own_Arr.set A r1 r2 r3 hn W'))
theorem own_stJ (X : Stand p l e R s m args below meth c T locs cells slots) (hx : p.tables.exec = Jvm.exec) (hZ : Z.Warmed39 s.vm) (eT : T.heap = h) {a : Addr} {n k : Nat} {f : Nat → Value} (A : own_Arr Z h a .long n f) {j : Int32} {x : Int64} (hj : ¬ j < 0) (hk : j.toNatClampNeg = k) (hn : k < n)  (hp : pc + 1 = pc') (hd : decode c.code pc = .ok (.lastore, 1))
    (q : ∀ T' h', Stand p l e R s m args below meth c T' (locs ++ [⟨a, k⟩]) cells slots → T'.heap = h' → Wr h h' a k (.long x) → own_Arr Z h' a .long n (own_upd f k (.long x)) → own_Goes p e below T' (mkF m pc' Ls st) Q) : own_Goes p e below T (mkF m pc Ls (.long x :: .int j :: .ref a :: st)) Q := by
  subst hp
  obtain ⟨cl, A, r1, r2, r3⟩ := A
  obtain ⟨T', h', X', e', W', stp⟩ := stJ X hx hZ eT A (own_in hj hk hn r1) (g := mkF m pc Ls (.long x :: .int j :: .ref a :: st)) rfl rfl hd
  subst hk
  exact own_step stp (q T' h' X' e' W' (own_Arr.set A r1 r2 r3 hn W'))
theorem own_stB (X : Stand p l e R s m args below meth c T locs cells slots) (hx : p.tables.exec = Jvm.exec) (hZ : Z.Warmed39 s.vm) (eT : T.heap = h) {a : Addr} {n k : Nat} {f : Nat → Value} (A : own_Arr Z h a .byte n f) {j : Int32} {x y : Int32} (hj : ¬ j < 0) (hk : j.toNatClampNeg = k) (hn : k < n) (hv : nar .byte x = y) (hp : pc + 1 = pc') (hd : decode c.code pc = .ok (.bastore, 1))
    (q : ∀ T' h', Stand p l e R s m args below meth c T' (locs ++ [⟨a, k⟩]) cells slots → T'.heap = h' → Wr h h' a k (.int y) → own_Arr Z h' a .byte n (own_upd f k (.int y)) → own_Goes p e below T' (mkF m pc' Ls st) Q) : own_Goes p e below T (mkF m pc Ls (.int x :: .int j :: .ref a :: st)) Q := by
  subst hp; subst hv
  obtain ⟨cl, A, r1, r2, r3⟩ := A
  obtain ⟨T', h', X', e', W', stp⟩ := stB X hx hZ eT A (own_in hj hk hn r1) (g := mkF m pc Ls (.int x :: .int j :: .ref a :: st)) rfl rfl hd
  subst hk
  exact own_step stp (q T' h' X' e' W' (own_Arr.set A r1 r2 r3 hn W'))
theorem own_stC (X : Stand p l e R s m args below meth c T locs cells slots) (hx : p.tables.exec = Jvm.exec) (hZ : Z.Warmed39 s.vm) (eT : T.heap = h) {a : Addr} {n k : Nat} {f : Nat → Value} (A : own_Arr Z h a .char n f) {j : Int32} {x y : Int32} (hj : ¬ j < 0) (hk : j.toNatClampNeg = k) (hn : k < n) (hv : nar .char x = y) (hp : pc + 1 = pc') (hd : decode c.code pc = .ok (.castore, 1))
    (q : ∀ T' h', Stand p l e R s m args below meth c T' (locs ++ [⟨a, k⟩]) cells slots → T'.heap = h' → Wr h h' a k (.int y) → own_Arr Z h' a .char n (own_upd f k (.int y)) → own_Goes p e below T' (mkF m pc' Ls st) Q) : own_Goes p e below T (mkF m pc Ls (.int x :: .int j :: .ref a :: st)) Q := by
  subst hp; subst hv
  obtain ⟨cl, A, r1, r2, r3⟩ := A
  obtain ⟨T', h', X', e', W', stp⟩ := stC X hx hZ eT A (own_in hj hk hn r1) (g := mkF m pc Ls (.int x :: .int j :: .ref a :: st)) rfl rfl hd
  subst hk
  exact own_step stp (q T' h' X' e' W' (own_Arr.set A r1 r2 r3 hn W'))
theorem own_ldI (X : Stand p l e R s m args below meth c T locs cells slots) (hx : p.tables.exec = Jvm.exec) (hZ : Z.Warmed39 s.vm) (eT : T.heap = h) {a : Addr} {n k : Nat} {f : Nat → Value} (A : own_Arr Z h a .int n f) {j : Int32} (hj : ¬ j < 0) (hk : j.toNatClampNeg = k) (hn : k < n) {v : Value} (hv : f k = v) (hp : pc + 1 = pc') (hd : decode c.code pc = .ok (.iaload, 1)) (q : own_Goes p e below T (mkF m pc' Ls (v :: st)) Q) : own_Goes p e below T (mkF m pc Ls (.int j :: .ref a :: st)) Q := by
  subst hp
  obtain ⟨cl, A, r1, r2, r3⟩ := A
  exact own_step (fun t z => X.iaload hx (j := j) (v := v) (by rw [eT]; exact A.1) (State.isArrayOf_alike hZ.alike A.2.1) A.2.2 (own_in hj hk hn r1) (by rw [hk, r3 k hn, hv]) (g := mkF m pc Ls (.int j :: .ref a :: st)) rfl rfl hd t z) q
theorem own_ldJ (X : Stand p l e R s m args below meth c T locs cells slots) (hx : p.tables.exec = Jvm.exec) (hZ : Z.Warmed39 s.vm) (eT : T.heap = h) {a : Addr} {n k : Nat} {f : Nat → Value} (A : own_Arr Z h a .long n f) {j : Int32} (hj : ¬ j < 0) (hk : j.toNatClampNeg = k) (hn : k < n) {v : Value} (hv : f k = v) (hp : pc + 1 = pc') (hd : decode c.code pc = .ok (.laload, 1)) (q : own_Goes p e below T (mkF m pc' Ls (v :: st)) Q) : own_Goes p e below T (mkF m pc Ls (.int j :: .ref a :: st)) Q := by
  subst hp
  obtain ⟨cl, A, r1, r2, r3⟩ := A
  exact own_step (fun t z => X.laload hx (j := j) (v := v) (by rw [eT]; exact A.1) (State.isArrayOf_alike hZ.alike A.2.1) A.2.2 (own_in hj hk hn r1) (by rw [hk, r3 k hn, hv]) (g := mkF m pc Ls (.int j :: .ref a :: st)) rfl rfl hd t z) q
theorem own_ldB (X : Stand p l e R s m args below meth c T locs cells slots) (hx : p.tables.exec = Jvm.exec) (hZ : Z.Warmed39 s.vm) (eT : T.heap = h) {a : Addr} {n k : Nat} {f : Nat → Value} (A : own_Arr Z h a .byte n f) {j : Int32} (hj : ¬ j < 0) (hk : j.toNatClampNeg = k) (hn : k < n) {v : Value} (hv : f k = v) (hp : pc + 1 = pc') (hd : decode c.code pc = .ok (.baload, 1)) (q : own_Goes p e below T (mkF m pc' Ls (v :: st)) Q) : own_Goes p e below T (mkF m pc Ls (.int j :: .ref a :: st)) Q := by
  subst hp
  obtain ⟨cl, A, r1, r2, r3⟩ := A
  exact own_step (fun t z => X.baloadBytes hx (j := j) (v := v) (by rw [eT]; exact A.1) (State.isArrayOf_alike hZ.alike A.2.1) A.2.2 (own_in hj hk hn r1) (by rw [hk, r3 k hn, hv]) (g := mkF m pc Ls (.int j :: .ref a :: st)) rfl rfl hd t z) q
theorem own_ldC (X : Stand p l e R s m args below meth c T locs cells slots) (hx : p.tables.exec = Jvm.exec) (hZ : Z.Warmed39 s.vm) (eT : T.heap = h) {a : Addr} {n k : Nat} {f : Nat → Value} (A : own_Arr Z h a .char n f) {j : Int32} (hj : ¬ j < 0) (hk : j.toNatClampNeg = k) (hn : k < n) {v : Value} (hv : f k = v) (hp : pc + 1 = pc') (hd : decode c.code pc = .ok (.caload, 1)) (q : own_Goes p e below T (mkF m pc' Ls (v :: st)) Q) : own_Goes p e below T (mkF m pc Ls (.int j :: .ref a :: st)) Q := by
  subst hp
  obtain ⟨cl, A, r1, r2, r3⟩ := A
  exact own_step (fun t z => X.caload hx (j := j) (v := v) (by rw [eT]; exact A.1) (State.isArrayOf_alike hZ.alike A.2.1) A.2.2 (own_in hj hk hn r1) (by rw [hk, r3 k hn, hv]) (g := mkF m pc Ls (.int j :: .ref a :: st)) rfl rfl hd t z) q
theorem own_len (X : Stand p l e R s m args below meth c T locs cells slots) (hx : p.tables.exec = Jvm.exec) (hZ : Z.Warmed39 s.vm) (eT : T.heap = h) {a : Addr} {ty : FieldType} {n : Nat} {f : Nat → Value} (A : own_Arr Z h a ty n f) {v : Int32} (hv : n.toInt32 = v) (hp : pc + 1 = pc') (hd : decode c.code pc = .ok (.arraylength, 1)) (q : own_Goes p e below T (mkF m pc' Ls (.int v :: st)) Q) : own_Goes p e below T (mkF m pc Ls (.ref a :: st)) Q := by
  subst hp; subst hv
  obtain ⟨cl, A, r1, r2, r3⟩ := A
  subst r1
  exact own_step (fun t z => X.arraylength hx (cell := cl) (by rw [eT]; exact A.1) (State.isArrayOf_alike hZ.alike A.2.1) (g := mkF m pc Ls (.ref a :: st)) rfl rfl hd t z) q
theorem own_instY (X : Stand p l e R s m args below meth c T locs cells slots) (hx : p.tables.exec = Jvm.exec) (hZ : Z.Warmed39 s.vm) {own K : String} {index : Nat} (hown : s.vm.findClass own = some m.cls) (w : (Jvm.Cond.classLink own index K).before a0 Z = true) (eT : T.heap = h) {a : Addr} (F : Ins Z h a K true) (hp : pc + 3 = pc') (hd : decode c.code pc = .ok (.instanceof index, 3))
    (k : ∀ T', Stand p l e R s m args below meth c T' locs cells slots → T'.heap = h → own_Goes p e below T' (mkF m pc' Ls (.int 1 :: st)) Q) : own_Goes p e below T (mkF m pc Ls (.ref a :: st)) Q := by
  subst hp
  obtain ⟨T', X', e', stp⟩ := instY X hx hZ hown w eT F (g := mkF m pc Ls (.ref a :: st)) rfl rfl hd
  exact own_step stp (k T' X' e')
theorem own_castY (X : Stand p l e R s m args below meth c T locs cells slots) (hx : p.tables.exec = Jvm.exec) (hZ : Z.Warmed39 s.vm) {own K : String} {index : Nat} (hown : s.vm.findClass own = some m.cls) (w : (Jvm.Cond.classLink own index K).before a0 Z = true) (eT : T.heap = h) {a : Addr} (F : Ins Z h a K true) (hp : pc + 3 = pc') (hd : decode c.code pc = .ok (.checkcast index, 3))
    (k : ∀ T', Stand p l e R s m args below meth c T' locs cells slots → T'.heap = h → own_Goes p e below T' (mkF m pc' Ls (.ref a :: st)) Q) : own_Goes p e below T (mkF m pc Ls (.ref a :: st)) Q := by
  subst hp
  obtain ⟨T', X', e', stp⟩ := castY X hx hZ hown w eT F (g := mkF m pc Ls (.ref a :: st)) rfl rfl hd
  exact own_step stp (k T' X' e')
theorem own_instNo (X : Stand p l e R s m args below meth c T locs cells slots) (hx : p.tables.exec = Jvm.exec) (hZ : Z.Warmed39 s.vm) {own K C : String} {index : Nat} (hown : s.vm.findClass own = some m.cls) (w : (Jvm.Cond.classLink own index K).before a0 Z = true) (eT : T.heap = h) {a : Addr} (E : Exa Z h a C) (F : ∃ c t, Z.vm.findClass C = some c ∧ Z.vm.findClass K = some t ∧ Z.vm.assignable c t = false) (hp : pc + 3 = pc') (hd : decode c.code pc = .ok (.instanceof index, 3))
    (k : ∀ T', Stand p l e R s m args below meth c T' locs cells slots → T'.heap = h → own_Goes p e below T' (mkF m pc' Ls (.int 0 :: st)) Q) : own_Goes p e below T (mkF m pc Ls (.ref a :: st)) Q := by
  subst hp
  obtain ⟨T', X', e', stp⟩ := instNo X hx hZ hown w eT E F (g := mkF m pc Ls (.ref a :: st)) rfl rfl hd
  exact own_step stp (k T' X' e')
theorem own_instNull (X : Stand p l e R s m args below meth c T locs cells slots) (hx : p.tables.exec = Jvm.exec) {index : Nat} (hp : pc + 3 = pc') (hd : decode c.code pc = .ok (.instanceof index, 3)) (k : own_Goes p e below T (mkF m pc' Ls (.int 0 :: st)) Q) : own_Goes p e below T (mkF m pc Ls (.null :: st)) Q := by
  subst hp; exact own_step (fun t q => X.instanceofNull hx (g := mkF m pc Ls (.null :: st)) rfl rfl hd t q) k
theorem own_fitR {v : Value} {C : String} (hv : v.isRef = true) : fits (.object C) v = true := by cases v <;> simp_all [fits, Value.isRef]
end Own
/-! 2. THE BODIES -/
def own_min (x y : Int64) : Int64 := if y < x then y else x
def own_max (x y : Int64) : Int64 := if x < y then y else x
theorem ef_rm_min (m : MethodId) (q1 : Int64) (q2 : Int64) : entryFrame m #[(.long q1), (.long q2)] 4 = mkF m 0 #[.val (.long q1), .second, .val (.long q2), .second] [] := by first | (simp [entryFrame, mkF, argsToLocals, Value.category]; done) | rfl
def K_rm_min  (Z : State) (h0 : Heap) (n0 : Nat) (q1 : Int64) (q2 : Int64) (v : Option Value) (h : Heap) (L : List Loc) : Prop := v = some (.long (own_min q1 q2)) ∧ Fr n0 L ∧ h = h0
theorem d_jdk_29_method_70_code_0 : decode jdk_29_method_70_code 0 = .ok (.lload_n 0, 1) := by decide +kernel
theorem d_jdk_29_method_70_code_1 : decode jdk_29_method_70_code 1 = .ok (.lload_n 2, 1) := by decide +kernel
theorem d_jdk_29_method_70_code_2 : decode jdk_29_method_70_code 2 = .ok (.lcmp, 1) := by decide +kernel
theorem d_jdk_29_method_70_code_3 : decode jdk_29_method_70_code 3 = .ok (.ifCond .gt 7, 3) := by decide +kernel
theorem d_jdk_29_method_70_code_10 : decode jdk_29_method_70_code 10 = .ok (.lload_n 2, 1) := by decide +kernel
theorem d_jdk_29_method_70_code_11 : decode jdk_29_method_70_code 11 = .ok (.lreturn, 1) := by decide +kernel
theorem d_jdk_29_method_70_code_6 : decode jdk_29_method_70_code 6 = .ok (.lload_n 0, 1) := by decide +kernel
theorem d_jdk_29_method_70_code_7 : decode jdk_29_method_70_code 7 = .ok (.goto 4, 3) := by decide +kernel
theorem pf_java_lang_Math_min__JJ_J : plainFor (⟨"java/lang/Math", "min", "(JJ)J"⟩ : MethodName) = true := by decide +kernel
set_option maxRecDepth 65536 in
set_option maxHeartbeats 40000000 in
theorem rm_min (l : Launch) (Z : State) (a0 : Array Value) (hw : ∀ d ∈ tables_1, d.before a0 Z = true) (ws : List Jvm.Cond)  (q1 : Int64) (q2 : Int64) (h0 : Heap) (n0 : Nat) (Z0 : n0 ≤ h0.size) :
    MetFree l (⟨"java/lang/Math", "min", "(JJ)J"⟩ : MethodName) (head1 (Jvm.Cond.code (⟨"java/lang/Math", "min", "(JJ)J"⟩ : MethodName) jdk_29_method_70_code 4 (some .long) :: ws) ({ frames := 0, cells := 0, slots := 0, locals := 0 } : Room)) (fun a U => a = #[(.long q1), (.long q2)] ∧ Z.Warmed39 U.vm ∧ U.heap = h0) (fun _ _ _ _ _ => True) (fun _ U o U' => ∃ v L, o = .returned v ∧ (K_rm_min  Z h0 n0 q1 q2) v U'.heap L ∧ FrameEnd U o U' L ({ frames := 0, cells := 0, slots := 0, locals := 0 } : Room).cells ({ frames := 0, cells := 0, slots := 0, locals := 0 } : Room).slots) := by
  refine own_body pf_java_lang_Math_min__JJ_J ?_
  intro p e s m below meth c s₁ hx hby hml hown hnm hret hlk hZ X0 e0
  have hown : s.vm.findClass "java/lang/Math" = some m.cls := hown
  have N0 := Fr.nil n0
  rw [ef_rm_min m q1 q2]
  refine own_lloadN X0 hx (pc' := 1) rfl (hb hby d_jdk_29_method_70_code_0) rfl ?_
  refine own_lloadN X0 hx (pc' := 2) rfl (hb hby d_jdk_29_method_70_code_1) rfl ?_
  refine own_lcmp X0 hx (pc' := 3) rfl (hb hby d_jdk_29_method_70_code_2) ?_
  by_cases c3_1 : q2 < q1
  · refine own_ifT X0 hx (pc' := 10) (hb hby d_jdk_29_method_70_code_3) (XT.ll_gt_t c3_1) (by decide) (by decide) ?_
    refine own_lloadN X0 hx (pc' := 11) rfl (hb hby d_jdk_29_method_70_code_10) rfl ?_
    refine own_lret X0 hx hlk hret (hb hby d_jdk_29_method_70_code_11) (by decide) (by decide) ?_
    rw [e0]
    exact ⟨by first | (simp only [own_min, if_pos c3_1]; done) | (simp only [own_min, if_pos c3_1]; rfl), N0, rfl⟩
  · refine own_ifF X0 hx (pc' := 6) rfl (hb hby d_jdk_29_method_70_code_3) (XT.ll_gt_f c3_1) ?_
    refine own_lloadN X0 hx (pc' := 7) rfl (hb hby d_jdk_29_method_70_code_6) rfl ?_
    refine own_goto X0 hx (pc' := 11) (hb hby d_jdk_29_method_70_code_7) (by decide) (by decide) ?_
    refine own_lret X0 hx hlk hret (hb hby d_jdk_29_method_70_code_11) (by decide) (by decide) ?_
    rw [e0]
    exact ⟨by first | (simp only [own_min, if_neg c3_1]; done) | (simp only [own_min, if_neg c3_1]; rfl), N0, rfl⟩
theorem ef_rm_max (m : MethodId) (q1 : Int64) (q2 : Int64) : entryFrame m #[(.long q1), (.long q2)] 4 = mkF m 0 #[.val (.long q1), .second, .val (.long q2), .second] [] := by first | (simp [entryFrame, mkF, argsToLocals, Value.category]; done) | rfl
def K_rm_max  (Z : State) (h0 : Heap) (n0 : Nat) (q1 : Int64) (q2 : Int64) (v : Option Value) (h : Heap) (L : List Loc) : Prop := v = some (.long (own_max q1 q2)) ∧ Fr n0 L ∧ h = h0
theorem d_jdk_29_method_66_code_0 : decode jdk_29_method_66_code 0 = .ok (.lload_n 0, 1) := by decide +kernel
theorem d_jdk_29_method_66_code_1 : decode jdk_29_method_66_code 1 = .ok (.lload_n 2, 1) := by decide +kernel
theorem d_jdk_29_method_66_code_2 : decode jdk_29_method_66_code 2 = .ok (.lcmp, 1) := by decide +kernel
theorem d_jdk_29_method_66_code_3 : decode jdk_29_method_66_code 3 = .ok (.ifCond .lt 7, 3) := by decide +kernel
theorem d_jdk_29_method_66_code_10 : decode jdk_29_method_66_code 10 = .ok (.lload_n 2, 1) := by decide +kernel
theorem d_jdk_29_method_66_code_11 : decode jdk_29_method_66_code 11 = .ok (.lreturn, 1) := by decide +kernel
theorem d_jdk_29_method_66_code_6 : decode jdk_29_method_66_code 6 = .ok (.lload_n 0, 1) := by decide +kernel
theorem d_jdk_29_method_66_code_7 : decode jdk_29_method_66_code 7 = .ok (.goto 4, 3) := by decide +kernel
theorem pf_java_lang_Math_max__JJ_J : plainFor (⟨"java/lang/Math", "max", "(JJ)J"⟩ : MethodName) = true := by decide +kernel
set_option maxRecDepth 65536 in
set_option maxHeartbeats 40000000 in
theorem rm_max (l : Launch) (Z : State) (a0 : Array Value) (hw : ∀ d ∈ tables_1, d.before a0 Z = true) (ws : List Jvm.Cond)  (q1 : Int64) (q2 : Int64) (h0 : Heap) (n0 : Nat) (Z0 : n0 ≤ h0.size) :
    MetFree l (⟨"java/lang/Math", "max", "(JJ)J"⟩ : MethodName) (head1 (Jvm.Cond.code (⟨"java/lang/Math", "max", "(JJ)J"⟩ : MethodName) jdk_29_method_66_code 4 (some .long) :: ws) ({ frames := 0, cells := 0, slots := 0, locals := 0 } : Room)) (fun a U => a = #[(.long q1), (.long q2)] ∧ Z.Warmed39 U.vm ∧ U.heap = h0) (fun _ _ _ _ _ => True) (fun _ U o U' => ∃ v L, o = .returned v ∧ (K_rm_max  Z h0 n0 q1 q2) v U'.heap L ∧ FrameEnd U o U' L ({ frames := 0, cells := 0, slots := 0, locals := 0 } : Room).cells ({ frames := 0, cells := 0, slots := 0, locals := 0 } : Room).slots) := by
  refine own_body pf_java_lang_Math_max__JJ_J ?_
  intro p e s m below meth c s₁ hx hby hml hown hnm hret hlk hZ X0 e0
  have hown : s.vm.findClass "java/lang/Math" = some m.cls := hown
  have N0 := Fr.nil n0
  rw [ef_rm_max m q1 q2]
  refine own_lloadN X0 hx (pc' := 1) rfl (hb hby d_jdk_29_method_66_code_0) rfl ?_
  refine own_lloadN X0 hx (pc' := 2) rfl (hb hby d_jdk_29_method_66_code_1) rfl ?_
  refine own_lcmp X0 hx (pc' := 3) rfl (hb hby d_jdk_29_method_66_code_2) ?_
  by_cases c3_1 : q1 < q2
  · refine own_ifT X0 hx (pc' := 10) (hb hby d_jdk_29_method_66_code_3) (XT.ll_lt_t c3_1) (by decide) (by decide) ?_
    refine own_lloadN X0 hx (pc' := 11) rfl (hb hby d_jdk_29_method_66_code_10) rfl ?_
    refine own_lret X0 hx hlk hret (hb hby d_jdk_29_method_66_code_11) (by decide) (by decide) ?_
    rw [e0]
    exact ⟨by first | (simp only [own_max, if_pos c3_1]; done) | (simp only [own_max, if_pos c3_1]; rfl), N0, rfl⟩
  · refine own_ifF X0 hx (pc' := 6) rfl (hb hby d_jdk_29_method_66_code_3) (XT.ll_lt_f c3_1) ?_
    refine own_lloadN X0 hx (pc' := 7) rfl (hb hby d_jdk_29_method_66_code_6) rfl ?_
    refine own_goto X0 hx (pc' := 11) (hb hby d_jdk_29_method_66_code_7) (by decide) (by decide) ?_
    refine own_lret X0 hx hlk hret (hb hby d_jdk_29_method_66_code_11) (by decide) (by decide) ?_
    rw [e0]
    exact ⟨by first | (simp only [own_max, if_neg c3_1]; done) | (simp only [own_max, if_neg c3_1]; rfl), N0, rfl⟩
theorem own_minS (x y : Int64) : ((own_min x y).toInt = x.toInt ∨ (own_min x y).toInt = y.toInt) ∧ (own_min x y).toInt ≤ x.toInt ∧ (own_min x y).toInt ≤ y.toInt := by
  unfold own_min
  by_cases h : y < x
  · rw [if_pos h]; rw [Int64.lt_iff_toInt_lt] at h; omega
  · rw [if_neg h]; rw [Int64.lt_iff_toInt_lt] at h; omega
theorem own_maxS (x y : Int64) : ((own_max x y).toInt = x.toInt ∨ (own_max x y).toInt = y.toInt) ∧ x.toInt ≤ (own_max x y).toInt ∧ y.toInt ≤ (own_max x y).toInt := by
  unfold own_max
  by_cases h : x < y
  · rw [if_pos h]; rw [Int64.lt_iff_toInt_lt] at h; omega
  · rw [if_neg h]; rw [Int64.lt_iff_toInt_lt] at h; omega
theorem own_ord {a b c lo hi mid : Int64} (h1 : own_min a (own_min b c) = lo) (h2 : own_max a (own_max b c) = hi) (h3 : own_max (own_min a b) (own_min (own_max a b) c) = mid) : lo.toInt ≤ mid.toInt ∧ mid.toInt ≤ hi.toInt := by
  subst h1 h2 h3
  have e1 := own_minS a (own_min b c)
  have e2 := own_minS b c
  have e3 := own_maxS a (own_max b c)
  have e4 := own_maxS b c
  have e5 := own_maxS (own_min a b) (own_min (own_max a b) c)
  have e6 := own_minS a b
  have e7 := own_minS (own_max a b) c
  have e8 := own_maxS a b
  omega
theorem own_lt {x y : Int64} (h : x.toInt ≤ y.toInt) (n : ¬ x = y) : x < y := by
  rw [Int64.lt_iff_toInt_lt]
  have : x.toInt ≠ y.toInt := fun q => n (Int64.toInt_inj.mp q)
  omega
theorem own_and3 (x : Int32) : (x &&& (3 : Int32)) = 0 ∨ (x &&& (3 : Int32)) = 1 ∨ (x &&& (3 : Int32)) = 2 ∨ (x &&& (3 : Int32)) = 3 := by
  have e1 : (x &&& 3).toInt = x.toInt % 2 ^ 2 := Jvm.Kit.i32_mask x 3 (k := 2) (by decide) (by decide)
  have k : ∀ n : Int32, (x &&& 3).toInt = n.toInt → (x &&& 3) = n := fun n h => Int32.toInt_inj.mp h
  have h : (x &&& 3).toInt = 0 ∨ (x &&& 3).toInt = 1 ∨ (x &&& 3).toInt = 2 ∨ (x &&& 3).toInt = 3 := by omega
  rcases h with h | h | h | h
  · exact Or.inl (k 0 h)
  · exact Or.inr (Or.inl (k 1 h))
  · exact Or.inr (Or.inr (Or.inl (k 2 h)))
  · exact Or.inr (Or.inr (Or.inr (k 3 h)))
theorem ef_rm_init (m : MethodId) (a1 : Addr) (a2 : Addr) : entryFrame m #[(.ref a1), (.ref a2)] 2 = mkF m 0 #[.val (.ref a1), .val (.ref a2)] [] := by first | (simp [entryFrame, mkF, argsToLocals, Value.category]; done) | rfl
def K_rm_init  (Z : State) (h0 : Heap) (n0 : Nat) (a1 : Addr) (a2 : Addr) (v : Option Value) (h : Heap) (L : List Loc) : Prop := v = none ∧ Fr n0 L ∧ Keep h0 h [a1] ∧ Exa Z h a1 "com/example/shingl/shingl/Fingerprint" ∧ Fld Z h a1 "com/example/shingl/shingl/Fingerprint" "minutiae" "[J" (.ref a2)
theorem d_prog_9_method_1_code_0 : decode prog_9_method_1_code 0 = .ok (.aload_n 0, 1) := by decide +kernel
theorem d_prog_9_method_1_code_1 : decode prog_9_method_1_code 1 = .ok (.invokespecial 1, 3) := by decide +kernel
theorem d_prog_9_method_1_code_4 : decode prog_9_method_1_code 4 = .ok (.aload_n 0, 1) := by decide +kernel
theorem d_prog_9_method_1_code_5 : decode prog_9_method_1_code 5 = .ok (.aload_n 1, 1) := by decide +kernel
theorem d_prog_9_method_1_code_6 : decode prog_9_method_1_code 6 = .ok (.putfield 7, 3) := by decide +kernel
theorem d_prog_9_method_1_code_9 : decode prog_9_method_1_code 9 = .ok (.return_, 1) := by decide +kernel
theorem pn_com_example_shingl_shingl_Fingerprint : plainName "com/example/shingl/shingl/Fingerprint" = true := by first | (simp [plainName, overriddenIn]; done) | decide +kernel
set_option maxRecDepth 65536 in
set_option maxHeartbeats 40000000 in
theorem rm_init (l : Launch) (Z : State) (a0 : Array Value) (hw : ∀ d ∈ tables_1, d.before a0 Z = true) (ws : List Jvm.Cond)  (a1 : Addr) (a2 : Addr) (h0 : Heap) (n0 : Nat) (Z0 : n0 ≤ h0.size) (I0 : Exa Z h0 a1 "com/example/shingl/shingl/Fingerprint") (I1 : Fld Z h0 a1 "com/example/shingl/shingl/Fingerprint" "minutiae" "[J" .null) (ge_a1 : n0 ≤ a1) :
    MetFree l (⟨"com/example/shingl/shingl/Fingerprint", "<init>", "([J)V"⟩ : MethodName) (head1 (Jvm.Cond.code (⟨"com/example/shingl/shingl/Fingerprint", "<init>", "([J)V"⟩ : MethodName) prog_9_method_1_code 2 none :: ws) ({ frames := 1, cells := 0, slots := 0, locals := 12 } : Room)) (fun a U => a = #[(.ref a1), (.ref a2)] ∧ Z.Warmed39 U.vm ∧ U.heap = h0) (fun _ _ _ _ _ => True) (fun _ U o U' => ∃ v L, o = .returned v ∧ (K_rm_init  Z h0 n0 a1 a2) v U'.heap L ∧ FrameEnd U o U' L ({ frames := 1, cells := 0, slots := 0, locals := 12 } : Room).cells ({ frames := 1, cells := 0, slots := 0, locals := 12 } : Room).slots) := by
  refine own_body (plainFor_of_name pn_com_example_shingl_shingl_Fingerprint) ?_
  intro p e s m below meth c s₁ hx hby hml hown hnm hret hlk hZ X0 e0
  have hown : s.vm.findClass "com/example/shingl/shingl/Fingerprint" = some m.cls := hown
  have N0 := Fr.nil n0
  rw [ef_rm_init m a1 a2]
  have K0 := Keep.refl h0 [a1]
  refine own_aloadN X0 hx (pc' := 1) rfl (hb hby d_prog_9_method_1_code_0) rfl rfl ?_
  refine own_initO X0 hx hZ hown (hw _ (List.mem_of_getElem? (i := 17) rfl)) (hw _ (List.mem_of_getElem? (i := 18) rfl)) (hw _ (List.mem_of_getElem? (i := 19) rfl)) e0 (by rw [hml]; rfl) (pc' := 4) rfl (hb hby d_prog_9_method_1_code_1) (by decide) (W := 0) (Nat.le_of_eq rfl) (by decide) ?_
  intro T1 X1 e1
  refine own_aloadN X1 hx (pc' := 5) rfl (hb hby d_prog_9_method_1_code_4) rfl rfl ?_
  refine own_aloadN X1 hx (pc' := 6) rfl (hb hby d_prog_9_method_1_code_5) rfl rfl ?_
  refine own_putF X1 hx hZ hown (host := "") (Or.inl (hw _ (List.mem_of_getElem? (i := 20) rfl))) Via.refl e1 I1 I0 (Or.inr ⟨(hw _ (List.mem_of_getElem? (i := 21) rfl)), rfl, hnm⟩) (hw _ (List.mem_of_getElem? (i := 13) rfl)) (ty := (.array .long)) (by decide) rfl rfl (pc' := 9) rfl (hb hby d_prog_9_method_1_code_6) ?_
  intro T2 h2 X2 e2 W2
  have F3 := Fld.same W2 I1
  have S4 := own_sizWr W2 Z0
  have E5 := Exa.wr W2 I0
  have N2 := Fr.snoc X2 N0 ge_a1
  have K2 := Keep.wr K0 W2 (Or.inl (by simp))
  refine own_ret X2 hx hlk hret (hb hby d_prog_9_method_1_code_9) (by decide) (by decide) ?_
  rw [e2]
  exact ⟨rfl, N2, K2, E5, F3⟩
theorem ef_rm_size (m : MethodId) (a1 : Addr) : entryFrame m #[(.ref a1)] 1 = mkF m 0 #[.val (.ref a1)] [] := by first | (simp [entryFrame, mkF, argsToLocals, Value.category]; done) | rfl
def K_rm_size (b : Addr) (N : Nat) (f1 : Nat → Value) (nv : Int32) (Z : State) (h0 : Heap) (n0 : Nat) (a1 : Addr) (v : Option Value) (h : Heap) (L : List Loc) : Prop := v = some (.int nv) ∧ Fr n0 L ∧ h = h0
theorem d_prog_9_method_4_code_0 : decode prog_9_method_4_code 0 = .ok (.aload_n 0, 1) := by decide +kernel
theorem d_prog_9_method_4_code_1 : decode prog_9_method_4_code 1 = .ok (.getfield 7, 3) := by decide +kernel
theorem d_prog_9_method_4_code_4 : decode prog_9_method_4_code 4 = .ok (.arraylength, 1) := by decide +kernel
theorem d_prog_9_method_4_code_5 : decode prog_9_method_4_code 5 = .ok (.ireturn, 1) := by decide +kernel
set_option maxRecDepth 65536 in
set_option maxHeartbeats 40000000 in
theorem rm_size (l : Launch) (Z : State) (a0 : Array Value) (hw : ∀ d ∈ tables_1, d.before a0 Z = true) (ws : List Jvm.Cond) (b : Addr) (N : Nat) (f1 : Nat → Value) (nv : Int32) (a1 : Addr) (h0 : Heap) (n0 : Nat) (Z0 : n0 ≤ h0.size) (I0 : Exa Z h0 a1 "com/example/shingl/shingl/Fingerprint") (I1 : Fld Z h0 a1 "com/example/shingl/shingl/Fingerprint" "minutiae" "[J" (.ref b)) (I2 : own_Arr Z h0 b .long N f1) (hN : N.toInt32 = nv) :
    MetFree l (⟨"com/example/shingl/shingl/Fingerprint", "size", "()I"⟩ : MethodName) (head1 (Jvm.Cond.code (⟨"com/example/shingl/shingl/Fingerprint", "size", "()I"⟩ : MethodName) prog_9_method_4_code 1 (some .int) :: ws) ({ frames := 0, cells := 0, slots := 0, locals := 0 } : Room)) (fun a U => a = #[(.ref a1)] ∧ Z.Warmed39 U.vm ∧ U.heap = h0) (fun _ _ _ _ _ => True) (fun _ U o U' => ∃ v L, o = .returned v ∧ (K_rm_size b N f1 nv Z h0 n0 a1) v U'.heap L ∧ FrameEnd U o U' L ({ frames := 0, cells := 0, slots := 0, locals := 0 } : Room).cells ({ frames := 0, cells := 0, slots := 0, locals := 0 } : Room).slots) := by
  refine own_body (plainFor_of_name pn_com_example_shingl_shingl_Fingerprint) ?_
  intro p e s m below meth c s₁ hx hby hml hown hnm hret hlk hZ X0 e0
  have hown : s.vm.findClass "com/example/shingl/shingl/Fingerprint" = some m.cls := hown
  have N0 := Fr.nil n0
  rw [ef_rm_size m a1]
  refine own_aloadN X0 hx (pc' := 1) rfl (hb hby d_prog_9_method_4_code_0) rfl rfl ?_
  refine own_getF X0 hx hZ hown (host := "") (Or.inl (hw _ (List.mem_of_getElem? (i := 20) rfl))) Via.refl e0 I1 (pc' := 4) rfl (hb hby d_prog_9_method_4_code_1) ?_
  intro T1 X1 e1
  refine own_len X1 hx hZ e1 I2 (v := nv) hN (pc' := 5) rfl (hb hby d_prog_9_method_4_code_4) ?_
  refine own_iret X1 hx hlk hret (hb hby d_prog_9_method_4_code_5) (by decide) (by decide) ?_
  rw [e1]
  exact ⟨rfl, N0, rfl⟩
theorem ef_rm_mnt (m : MethodId) (a1 : Addr) (p2 : Int32) : entryFrame m #[(.ref a1), (.int p2)] 2 = mkF m 0 #[.val (.ref a1), .val (.int p2)] [] := by first | (simp [entryFrame, mkF, argsToLocals, Value.category]; done) | rfl
def K_rm_mnt (b : Addr) (N : Nat) (f1 : Nat → Value) (k : Nat) (x : Int64) (Z : State) (h0 : Heap) (n0 : Nat) (a1 : Addr) (p2 : Int32) (v : Option Value) (h : Heap) (L : List Loc) : Prop := v = some (.long x) ∧ Fr n0 L ∧ h = h0
theorem d_prog_9_method_5_code_0 : decode prog_9_method_5_code 0 = .ok (.aload_n 0, 1) := by decide +kernel
theorem d_prog_9_method_5_code_1 : decode prog_9_method_5_code 1 = .ok (.getfield 7, 3) := by decide +kernel
theorem d_prog_9_method_5_code_4 : decode prog_9_method_5_code 4 = .ok (.iload_n 1, 1) := by decide +kernel
theorem d_prog_9_method_5_code_5 : decode prog_9_method_5_code 5 = .ok (.laload, 1) := by decide +kernel
theorem d_prog_9_method_5_code_6 : decode prog_9_method_5_code 6 = .ok (.lreturn, 1) := by decide +kernel
set_option maxRecDepth 65536 in
set_option maxHeartbeats 40000000 in
theorem rm_mnt (l : Launch) (Z : State) (a0 : Array Value) (hw : ∀ d ∈ tables_1, d.before a0 Z = true) (ws : List Jvm.Cond) (b : Addr) (N : Nat) (f1 : Nat → Value) (k : Nat) (x : Int64) (a1 : Addr) (p2 : Int32) (h0 : Heap) (n0 : Nat) (Z0 : n0 ≤ h0.size) (I0 : Exa Z h0 a1 "com/example/shingl/shingl/Fingerprint") (I1 : Fld Z h0 a1 "com/example/shingl/shingl/Fingerprint" "minutiae" "[J" (.ref b)) (I2 : own_Arr Z h0 b .long N f1) (hj : ¬ p2 < 0) (hk : p2.toNatClampNeg = k) (hn : k < N) (hv : f1 k = .long x) :
    MetFree l (⟨"com/example/shingl/shingl/Fingerprint", "minutia", "(I)J"⟩ : MethodName) (head1 (Jvm.Cond.code (⟨"com/example/shingl/shingl/Fingerprint", "minutia", "(I)J"⟩ : MethodName) prog_9_method_5_code 2 (some .long) :: ws) ({ frames := 0, cells := 0, slots := 0, locals := 0 } : Room)) (fun a U => a = #[(.ref a1), (.int p2)] ∧ Z.Warmed39 U.vm ∧ U.heap = h0) (fun _ _ _ _ _ => True) (fun _ U o U' => ∃ v L, o = .returned v ∧ (K_rm_mnt b N f1 k x Z h0 n0 a1 p2) v U'.heap L ∧ FrameEnd U o U' L ({ frames := 0, cells := 0, slots := 0, locals := 0 } : Room).cells ({ frames := 0, cells := 0, slots := 0, locals := 0 } : Room).slots) := by
  refine own_body (plainFor_of_name pn_com_example_shingl_shingl_Fingerprint) ?_
  intro p e s m below meth c s₁ hx hby hml hown hnm hret hlk hZ X0 e0
  have hown : s.vm.findClass "com/example/shingl/shingl/Fingerprint" = some m.cls := hown
  have N0 := Fr.nil n0
  rw [ef_rm_mnt m a1 p2]
  refine own_aloadN X0 hx (pc' := 1) rfl (hb hby d_prog_9_method_5_code_0) rfl rfl ?_
  refine own_getF X0 hx hZ hown (host := "") (Or.inl (hw _ (List.mem_of_getElem? (i := 20) rfl))) Via.refl e0 I1 (pc' := 4) rfl (hb hby d_prog_9_method_5_code_1) ?_
  intro T1 X1 e1
  refine own_iloadN X1 hx (pc' := 5) rfl (hb hby d_prog_9_method_5_code_4) rfl ?_
  refine own_ldJ X1 hx hZ e1 I2 (k := k) hj hk hn (v := (.long x)) hv (pc' := 6) rfl (hb hby d_prog_9_method_5_code_5) ?_
  refine own_lret X1 hx hlk hret (hb hby d_prog_9_method_5_code_6) (by decide) (by decide) ?_
  rw [e1]
  exact ⟨rfl, N0, rfl⟩
theorem ef_rm_st0 (m : MethodId) (a1 : Addr) : entryFrame m #[(.ref a1)] 2 = mkF m 0 #[.val (.ref a1), .unset] [] := by first | (simp [entryFrame, mkF, argsToLocals, Value.category]; done) | rfl
def K_rm_st0 (f1 : Nat → Value)  (Z : State) (h0 : Heap) (n0 : Nat) (a1 : Addr) (v : Option Value) (h : Heap) (L : List Loc) : Prop := ∃ r, v = some (.ref r) ∧ Fr n0 L ∧ Keep h0 h [] ∧ Exa Z h r "com/example/shingl/shingl/Fingerprint" ∧ Fld Z h r "com/example/shingl/shingl/Fingerprint" "minutiae" "[J" (.ref a1) ∧ h0.size ≤ r
theorem d_prog_9_method_3_code_0 : decode prog_9_method_3_code 0 = .ok (.iconst 1, 1) := by decide +kernel
theorem d_prog_9_method_3_code_1 : decode prog_9_method_3_code 1 = .ok (.istore_n 1, 1) := by decide +kernel
theorem d_prog_9_method_3_code_2 : decode prog_9_method_3_code 2 = .ok (.iload_n 1, 1) := by decide +kernel
theorem d_prog_9_method_3_code_3 : decode prog_9_method_3_code 3 = .ok (.aload_n 0, 1) := by decide +kernel
theorem d_prog_9_method_3_code_4 : decode prog_9_method_3_code 4 = .ok (.arraylength, 1) := by decide +kernel
theorem d_prog_9_method_3_code_5 : decode prog_9_method_3_code 5 = .ok (.if_icmp .ge 31, 3) := by decide +kernel
theorem d_prog_9_method_3_code_36 : decode prog_9_method_3_code 36 = .ok (.new 8, 3) := by decide +kernel
theorem d_prog_9_method_3_code_39 : decode prog_9_method_3_code 39 = .ok (.dup, 1) := by decide +kernel
theorem d_prog_9_method_3_code_40 : decode prog_9_method_3_code 40 = .ok (.aload_n 0, 1) := by decide +kernel
theorem d_prog_9_method_3_code_41 : decode prog_9_method_3_code 41 = .ok (.invokespecial 28, 3) := by decide +kernel
theorem pd___J_V : parseMethodDescriptor "([J)V" = some ⟨[(.array .long)], none⟩ := by decide +kernel
theorem d_prog_9_method_3_code_44 : decode prog_9_method_3_code 44 = .ok (.areturn, 1) := by decide +kernel
set_option maxRecDepth 65536 in
set_option maxHeartbeats 40000000 in
theorem rm_st0 (l : Launch) (Z : State) (a0 : Array Value) (hw : ∀ d ∈ tables_1, d.before a0 Z = true) (ws : List Jvm.Cond) (f1 : Nat → Value)  (a1 : Addr) (h0 : Heap) (n0 : Nat) (Z0 : n0 ≤ h0.size) (I0 : own_Arr Z h0 a1 .long 0 f1)   :
    MetFree l (⟨"com/example/shingl/shingl/Fingerprint", "stored", "([J)Lcom/example/shingl/shingl/Fingerprint;"⟩ : MethodName) (head1 (Jvm.Cond.code (⟨"com/example/shingl/shingl/Fingerprint", "stored", "([J)Lcom/example/shingl/shingl/Fingerprint;"⟩ : MethodName) prog_9_method_3_code 2 (some (.object "com/example/shingl/shingl/Fingerprint")) :: ws) ({ frames := 2, cells := 1, slots := 1, locals := 26 } : Room)) (fun a U => a = #[(.ref a1)] ∧ Z.Warmed39 U.vm ∧ U.heap = h0) (fun _ _ _ _ _ => True) (fun _ U o U' => ∃ v L, o = .returned v ∧ (K_rm_st0 f1 Z h0 n0 a1) v U'.heap L ∧ FrameEnd U o U' L ({ frames := 2, cells := 1, slots := 1, locals := 26 } : Room).cells ({ frames := 2, cells := 1, slots := 1, locals := 26 } : Room).slots) := by
  refine own_body (plainFor_of_name pn_com_example_shingl_shingl_Fingerprint) ?_
  intro p e s m below meth c s₁ hx hby hml hown hnm hret hlk hZ X0 e0
  have hown : s.vm.findClass "com/example/shingl/shingl/Fingerprint" = some m.cls := hown
  have N0 := Fr.nil n0
  rw [ef_rm_st0 m a1]
  have K0 := Keep.refl h0 []
  refine own_iconst X0 hx (v := (1 : Int32)) (pc' := 1) rfl (hb hby d_prog_9_method_3_code_0) rfl ?_
  refine own_istoreN X0 hx (Ls' := #[.val (.ref a1), .val (.int (1 : Int32))]) (pc' := 2) rfl (hb hby d_prog_9_method_3_code_1) rfl ?_
  refine own_iloadN X0 hx (pc' := 3) rfl (hb hby d_prog_9_method_3_code_2) rfl ?_
  refine own_aloadN X0 hx (pc' := 4) rfl (hb hby d_prog_9_method_3_code_3) rfl rfl ?_
  refine own_len X0 hx hZ e0 I0 (v := (0 : Int32)) (by decide) (pc' := 5) rfl (hb hby d_prog_9_method_3_code_4) ?_
  refine own_icmpT X0 hx (pc' := 36) (hb hby d_prog_9_method_3_code_5) (XT.ii_ge_t (by decide)) (by decide) (by decide) ?_
  refine own_new X0 hx hZ hown (hw _ (List.mem_of_getElem? (i := 12) rfl)) (hw _ (List.mem_of_getElem? (i := 13) rfl)) (hw _ (List.mem_of_getElem? (i := 10) rfl)) e0 (pc' := 39) rfl (hb hby d_prog_9_method_3_code_36) (by decide) (by decide) ?_
  intro T1 h1 X1 e1 E1 A1 D1
  obtain ⟨o1, g1⟩ : ∃ z, z = h0.size := ⟨_, rfl⟩
  rw [← g1] at A1 D1 ⊢
  have ne1_a1 : a1 ≠ o1 := Nat.ne_of_lt (g1 ▸ (own_Arr.lt I0))
  have ge1 : n0 ≤ o1 := g1 ▸ Z0
  have S2 := Nat.le_trans Z0 E1.1
  have A3 := own_Arr.ext E1 I0
  have F4 : Fld Z h1 o1 "com/example/shingl/shingl/Fingerprint" "minutiae" "[J" .null := D1 (Or.inr (hw _ (List.mem_of_getElem? (i := 21) rfl))) (ty := (.array .long)) (by decide)
  have K1 := Keep.ext K0 E1
  refine own_dup X1 hx (pc' := 40) rfl (hb hby d_prog_9_method_3_code_39) rfl ?_
  refine own_aloadN X1 hx (pc' := 41) rfl (hb hby d_prog_9_method_3_code_40) rfl rfl ?_
  refine own_callC X1 hx hZ (y := (⟨"com/example/shingl/shingl/Fingerprint", "<init>", "([J)V"⟩ : MethodName)) rfl hown (hw _ (List.mem_of_getElem? (i := 14) rfl)) (hw _ (List.mem_of_getElem? (i := 15) rfl)) (hw _ (List.mem_of_getElem? (i := 10) rfl)) (hw _ (List.mem_of_getElem? (i := 16) rfl))  (by decide) (rm_init l Z a0 hw [] o1 a1 h1 n0 S2 A1 F4 ge1) (by decide) (W := 1) (by decide) (by decide) (by decide) e1 (by rw [hml]; rfl) (argsL := [(.ref a1)]) (rest := [(.ref o1)]) rfl (lenOf pd___J_V rfl) rfl (Nat.le_of_eq rfl) (pc' := 44) rfl (hb hby d_prog_9_method_3_code_41) ?_
  rintro _ T5 L5 X5 ⟨rfl, N5, K5, G5_0, G5_1⟩
  have M5 := Fr.app N0 N5
  obtain ⟨h5, e5⟩ : ∃ z, T5.heap = z := ⟨_, rfl⟩
  rw [e5] at K5 G5_0 G5_1
  have S6 := Nat.le_trans S2 K5.1
  have A7 := own_Arr.keep K5 A3 (ninS ne1_a1 nin0)
  have E8 := A1.keep K5
  have Q5 := Keep.trans K1 K5 (by intro z hz; cases List.mem_singleton.mp hz; exact Or.inr (Nat.le_of_eq g1.symm))
  show own_Goes p e below T5 (mkF m 44 #[.val (.ref a1), .val (.int (1 : Int32))] [(.ref o1)]) (own_Ret s (K_rm_st0 f1 Z h0 n0 a1) ({ frames := 2, cells := 1, slots := 1, locals := 26 } : Room).cells ({ frames := 2, cells := 1, slots := 1, locals := 26 } : Room).slots)
  refine own_aret X5 hx hlk hret rfl rfl (hb hby d_prog_9_method_3_code_44) (by decide) (by decide) ?_
  rw [e5]
  exact ⟨o1, rfl, M5, Q5, E8, G5_1, Nat.le_of_eq g1.symm⟩
theorem ef_rm_st1 (m : MethodId) (a1 : Addr) : entryFrame m #[(.ref a1)] 2 = mkF m 0 #[.val (.ref a1), .unset] [] := by first | (simp [entryFrame, mkF, argsToLocals, Value.category]; done) | rfl
def K_rm_st1 (f1 : Nat → Value) (x0 : Int64) (Z : State) (h0 : Heap) (n0 : Nat) (a1 : Addr) (v : Option Value) (h : Heap) (L : List Loc) : Prop := ∃ r, v = some (.ref r) ∧ Fr n0 L ∧ Keep h0 h [] ∧ Exa Z h r "com/example/shingl/shingl/Fingerprint" ∧ Fld Z h r "com/example/shingl/shingl/Fingerprint" "minutiae" "[J" (.ref a1) ∧ h0.size ≤ r
set_option maxRecDepth 65536 in
set_option maxHeartbeats 40000000 in
theorem rm_st1 (l : Launch) (Z : State) (a0 : Array Value) (hw : ∀ d ∈ tables_1, d.before a0 Z = true) (ws : List Jvm.Cond) (f1 : Nat → Value) (x0 : Int64) (a1 : Addr) (h0 : Heap) (n0 : Nat) (Z0 : n0 ≤ h0.size) (I0 : own_Arr Z h0 a1 .long 1 f1) (hf0 : f1 0 = .long x0)  :
    MetFree l (⟨"com/example/shingl/shingl/Fingerprint", "stored", "([J)Lcom/example/shingl/shingl/Fingerprint;"⟩ : MethodName) (head1 (Jvm.Cond.code (⟨"com/example/shingl/shingl/Fingerprint", "stored", "([J)Lcom/example/shingl/shingl/Fingerprint;"⟩ : MethodName) prog_9_method_3_code 2 (some (.object "com/example/shingl/shingl/Fingerprint")) :: ws) ({ frames := 2, cells := 1, slots := 1, locals := 26 } : Room)) (fun a U => a = #[(.ref a1)] ∧ Z.Warmed39 U.vm ∧ U.heap = h0) (fun _ _ _ _ _ => True) (fun _ U o U' => ∃ v L, o = .returned v ∧ (K_rm_st1 f1 x0 Z h0 n0 a1) v U'.heap L ∧ FrameEnd U o U' L ({ frames := 2, cells := 1, slots := 1, locals := 26 } : Room).cells ({ frames := 2, cells := 1, slots := 1, locals := 26 } : Room).slots) := by
  refine own_body (plainFor_of_name pn_com_example_shingl_shingl_Fingerprint) ?_
  intro p e s m below meth c s₁ hx hby hml hown hnm hret hlk hZ X0 e0
  have hown : s.vm.findClass "com/example/shingl/shingl/Fingerprint" = some m.cls := hown
  have N0 := Fr.nil n0
  rw [ef_rm_st1 m a1]
  have K0 := Keep.refl h0 []
  refine own_iconst X0 hx (v := (1 : Int32)) (pc' := 1) rfl (hb hby d_prog_9_method_3_code_0) rfl ?_
  refine own_istoreN X0 hx (Ls' := #[.val (.ref a1), .val (.int (1 : Int32))]) (pc' := 2) rfl (hb hby d_prog_9_method_3_code_1) rfl ?_
  refine own_iloadN X0 hx (pc' := 3) rfl (hb hby d_prog_9_method_3_code_2) rfl ?_
  refine own_aloadN X0 hx (pc' := 4) rfl (hb hby d_prog_9_method_3_code_3) rfl rfl ?_
  refine own_len X0 hx hZ e0 I0 (v := (1 : Int32)) (by decide) (pc' := 5) rfl (hb hby d_prog_9_method_3_code_4) ?_
  refine own_icmpT X0 hx (pc' := 36) (hb hby d_prog_9_method_3_code_5) (XT.ii_ge_t (by decide)) (by decide) (by decide) ?_
  refine own_new X0 hx hZ hown (hw _ (List.mem_of_getElem? (i := 12) rfl)) (hw _ (List.mem_of_getElem? (i := 13) rfl)) (hw _ (List.mem_of_getElem? (i := 10) rfl)) e0 (pc' := 39) rfl (hb hby d_prog_9_method_3_code_36) (by decide) (by decide) ?_
  intro T1 h1 X1 e1 E1 A1 D1
  obtain ⟨o1, g1⟩ : ∃ z, z = h0.size := ⟨_, rfl⟩
  rw [← g1] at A1 D1 ⊢
  have ne1_a1 : a1 ≠ o1 := Nat.ne_of_lt (g1 ▸ (own_Arr.lt I0))
  have ge1 : n0 ≤ o1 := g1 ▸ Z0
  have S2 := Nat.le_trans Z0 E1.1
  have A3 := own_Arr.ext E1 I0
  have F4 : Fld Z h1 o1 "com/example/shingl/shingl/Fingerprint" "minutiae" "[J" .null := D1 (Or.inr (hw _ (List.mem_of_getElem? (i := 21) rfl))) (ty := (.array .long)) (by decide)
  have K1 := Keep.ext K0 E1
  refine own_dup X1 hx (pc' := 40) rfl (hb hby d_prog_9_method_3_code_39) rfl ?_
  refine own_aloadN X1 hx (pc' := 41) rfl (hb hby d_prog_9_method_3_code_40) rfl rfl ?_
  refine own_callC X1 hx hZ (y := (⟨"com/example/shingl/shingl/Fingerprint", "<init>", "([J)V"⟩ : MethodName)) rfl hown (hw _ (List.mem_of_getElem? (i := 14) rfl)) (hw _ (List.mem_of_getElem? (i := 15) rfl)) (hw _ (List.mem_of_getElem? (i := 10) rfl)) (hw _ (List.mem_of_getElem? (i := 16) rfl))  (by decide) (rm_init l Z a0 hw [] o1 a1 h1 n0 S2 A1 F4 ge1) (by decide) (W := 1) (by decide) (by decide) (by decide) e1 (by rw [hml]; rfl) (argsL := [(.ref a1)]) (rest := [(.ref o1)]) rfl (lenOf pd___J_V rfl) rfl (Nat.le_of_eq rfl) (pc' := 44) rfl (hb hby d_prog_9_method_3_code_41) ?_
  rintro _ T5 L5 X5 ⟨rfl, N5, K5, G5_0, G5_1⟩
  have M5 := Fr.app N0 N5
  obtain ⟨h5, e5⟩ : ∃ z, T5.heap = z := ⟨_, rfl⟩
  rw [e5] at K5 G5_0 G5_1
  have S6 := Nat.le_trans S2 K5.1
  have A7 := own_Arr.keep K5 A3 (ninS ne1_a1 nin0)
  have E8 := A1.keep K5
  have Q5 := Keep.trans K1 K5 (by intro z hz; cases List.mem_singleton.mp hz; exact Or.inr (Nat.le_of_eq g1.symm))
  show own_Goes p e below T5 (mkF m 44 #[.val (.ref a1), .val (.int (1 : Int32))] [(.ref o1)]) (own_Ret s (K_rm_st1 f1 x0 Z h0 n0 a1) ({ frames := 2, cells := 1, slots := 1, locals := 26 } : Room).cells ({ frames := 2, cells := 1, slots := 1, locals := 26 } : Room).slots)
  refine own_aret X5 hx hlk hret rfl rfl (hb hby d_prog_9_method_3_code_44) (by decide) (by decide) ?_
  rw [e5]
  exact ⟨o1, rfl, M5, Q5, E8, G5_1, Nat.le_of_eq g1.symm⟩
theorem ef_rm_st2 (m : MethodId) (a1 : Addr) : entryFrame m #[(.ref a1)] 2 = mkF m 0 #[.val (.ref a1), .unset] [] := by first | (simp [entryFrame, mkF, argsToLocals, Value.category]; done) | rfl
def K_rm_st2 (f1 : Nat → Value) (x0 : Int64) (x1 : Int64) (Z : State) (h0 : Heap) (n0 : Nat) (a1 : Addr) (v : Option Value) (h : Heap) (L : List Loc) : Prop := ∃ r, v = some (.ref r) ∧ Fr n0 L ∧ Keep h0 h [] ∧ Exa Z h r "com/example/shingl/shingl/Fingerprint" ∧ Fld Z h r "com/example/shingl/shingl/Fingerprint" "minutiae" "[J" (.ref a1) ∧ h0.size ≤ r
theorem d_prog_9_method_3_code_8 : decode prog_9_method_3_code 8 = .ok (.aload_n 0, 1) := by decide +kernel
theorem d_prog_9_method_3_code_9 : decode prog_9_method_3_code 9 = .ok (.iload_n 1, 1) := by decide +kernel
theorem d_prog_9_method_3_code_10 : decode prog_9_method_3_code 10 = .ok (.iconst 1, 1) := by decide +kernel
theorem d_prog_9_method_3_code_11 : decode prog_9_method_3_code 11 = .ok (.isub, 1) := by decide +kernel
theorem d_prog_9_method_3_code_12 : decode prog_9_method_3_code 12 = .ok (.laload, 1) := by decide +kernel
theorem d_prog_9_method_3_code_13 : decode prog_9_method_3_code 13 = .ok (.aload_n 0, 1) := by decide +kernel
theorem d_prog_9_method_3_code_14 : decode prog_9_method_3_code 14 = .ok (.iload_n 1, 1) := by decide +kernel
theorem d_prog_9_method_3_code_15 : decode prog_9_method_3_code 15 = .ok (.laload, 1) := by decide +kernel
theorem d_prog_9_method_3_code_16 : decode prog_9_method_3_code 16 = .ok (.lcmp, 1) := by decide +kernel
theorem d_prog_9_method_3_code_17 : decode prog_9_method_3_code 17 = .ok (.ifCond .lt 13, 3) := by decide +kernel
theorem d_prog_9_method_3_code_30 : decode prog_9_method_3_code 30 = .ok (.iinc 1 1, 3) := by decide +kernel
theorem d_prog_9_method_3_code_33 : decode prog_9_method_3_code 33 = .ok (.goto (-31), 3) := by decide +kernel
set_option maxRecDepth 65536 in
set_option maxHeartbeats 40000000 in
theorem rm_st2 (l : Launch) (Z : State) (a0 : Array Value) (hw : ∀ d ∈ tables_1, d.before a0 Z = true) (ws : List Jvm.Cond) (f1 : Nat → Value) (x0 : Int64) (x1 : Int64) (a1 : Addr) (h0 : Heap) (n0 : Nat) (Z0 : n0 ≤ h0.size) (I0 : own_Arr Z h0 a1 .long 2 f1) (hf0 : f1 0 = .long x0) (hf1 : f1 1 = .long x1) (hl0 : x0 < x1) :
    MetFree l (⟨"com/example/shingl/shingl/Fingerprint", "stored", "([J)Lcom/example/shingl/shingl/Fingerprint;"⟩ : MethodName) (head1 (Jvm.Cond.code (⟨"com/example/shingl/shingl/Fingerprint", "stored", "([J)Lcom/example/shingl/shingl/Fingerprint;"⟩ : MethodName) prog_9_method_3_code 2 (some (.object "com/example/shingl/shingl/Fingerprint")) :: ws) ({ frames := 2, cells := 1, slots := 1, locals := 26 } : Room)) (fun a U => a = #[(.ref a1)] ∧ Z.Warmed39 U.vm ∧ U.heap = h0) (fun _ _ _ _ _ => True) (fun _ U o U' => ∃ v L, o = .returned v ∧ (K_rm_st2 f1 x0 x1 Z h0 n0 a1) v U'.heap L ∧ FrameEnd U o U' L ({ frames := 2, cells := 1, slots := 1, locals := 26 } : Room).cells ({ frames := 2, cells := 1, slots := 1, locals := 26 } : Room).slots) := by
  refine own_body (plainFor_of_name pn_com_example_shingl_shingl_Fingerprint) ?_
  intro p e s m below meth c s₁ hx hby hml hown hnm hret hlk hZ X0 e0
  have hown : s.vm.findClass "com/example/shingl/shingl/Fingerprint" = some m.cls := hown
  have N0 := Fr.nil n0
  rw [ef_rm_st2 m a1]
  have K0 := Keep.refl h0 []
  refine own_iconst X0 hx (v := (1 : Int32)) (pc' := 1) rfl (hb hby d_prog_9_method_3_code_0) rfl ?_
  refine own_istoreN X0 hx (Ls' := #[.val (.ref a1), .val (.int (1 : Int32))]) (pc' := 2) rfl (hb hby d_prog_9_method_3_code_1) rfl ?_
  refine own_iloadN X0 hx (pc' := 3) rfl (hb hby d_prog_9_method_3_code_2) rfl ?_
  refine own_aloadN X0 hx (pc' := 4) rfl (hb hby d_prog_9_method_3_code_3) rfl rfl ?_
  refine own_len X0 hx hZ e0 I0 (v := (2 : Int32)) (by decide) (pc' := 5) rfl (hb hby d_prog_9_method_3_code_4) ?_
  refine own_icmpF X0 hx (pc' := 8) rfl (hb hby d_prog_9_method_3_code_5) (XT.ii_ge_f (by decide)) ?_
  refine own_aloadN X0 hx (pc' := 9) rfl (hb hby d_prog_9_method_3_code_8) rfl rfl ?_
  refine own_iloadN X0 hx (pc' := 10) rfl (hb hby d_prog_9_method_3_code_9) rfl ?_
  refine own_iconst X0 hx (v := (1 : Int32)) (pc' := 11) rfl (hb hby d_prog_9_method_3_code_10) rfl ?_
  refine own_isub X0 hx (v := (0 : Int32)) (pc' := 12) rfl (hb hby d_prog_9_method_3_code_11) (by decide) ?_
  refine own_ldJ X0 hx hZ e0 I0 (k := 0) (by decide) (by decide) (by decide) (v := (.long x0)) hf0 (pc' := 13) rfl (hb hby d_prog_9_method_3_code_12) ?_
  refine own_aloadN X0 hx (pc' := 14) rfl (hb hby d_prog_9_method_3_code_13) rfl rfl ?_
  refine own_iloadN X0 hx (pc' := 15) rfl (hb hby d_prog_9_method_3_code_14) rfl ?_
  refine own_ldJ X0 hx hZ e0 I0 (k := 1) (by decide) (by decide) (by decide) (v := (.long x1)) hf1 (pc' := 16) rfl (hb hby d_prog_9_method_3_code_15) ?_
  refine own_lcmp X0 hx (pc' := 17) rfl (hb hby d_prog_9_method_3_code_16) ?_
  refine own_ifT X0 hx (pc' := 30) (hb hby d_prog_9_method_3_code_17) (XT.ll_lt_t hl0) (by decide) (by decide) ?_
  refine own_iinc X0 hx (v := (2 : Int32)) (Ls' := #[.val (.ref a1), .val (.int (2 : Int32))]) (pc' := 33) rfl (hb hby d_prog_9_method_3_code_30) rfl (by decide) rfl ?_
  refine own_goto X0 hx (pc' := 2) (hb hby d_prog_9_method_3_code_33) (by decide) (by decide) ?_
  refine own_iloadN X0 hx (pc' := 3) rfl (hb hby d_prog_9_method_3_code_2) rfl ?_
  refine own_aloadN X0 hx (pc' := 4) rfl (hb hby d_prog_9_method_3_code_3) rfl rfl ?_
  refine own_len X0 hx hZ e0 I0 (v := (2 : Int32)) (by decide) (pc' := 5) rfl (hb hby d_prog_9_method_3_code_4) ?_
  refine own_icmpT X0 hx (pc' := 36) (hb hby d_prog_9_method_3_code_5) (XT.ii_ge_t (by decide)) (by decide) (by decide) ?_
  refine own_new X0 hx hZ hown (hw _ (List.mem_of_getElem? (i := 12) rfl)) (hw _ (List.mem_of_getElem? (i := 13) rfl)) (hw _ (List.mem_of_getElem? (i := 10) rfl)) e0 (pc' := 39) rfl (hb hby d_prog_9_method_3_code_36) (by decide) (by decide) ?_
  intro T1 h1 X1 e1 E1 A1 D1
  obtain ⟨o1, g1⟩ : ∃ z, z = h0.size := ⟨_, rfl⟩
  rw [← g1] at A1 D1 ⊢
  have ne1_a1 : a1 ≠ o1 := Nat.ne_of_lt (g1 ▸ (own_Arr.lt I0))
  have ge1 : n0 ≤ o1 := g1 ▸ Z0
  have S2 := Nat.le_trans Z0 E1.1
  have A3 := own_Arr.ext E1 I0
  have F4 : Fld Z h1 o1 "com/example/shingl/shingl/Fingerprint" "minutiae" "[J" .null := D1 (Or.inr (hw _ (List.mem_of_getElem? (i := 21) rfl))) (ty := (.array .long)) (by decide)
  have K1 := Keep.ext K0 E1
  refine own_dup X1 hx (pc' := 40) rfl (hb hby d_prog_9_method_3_code_39) rfl ?_
  refine own_aloadN X1 hx (pc' := 41) rfl (hb hby d_prog_9_method_3_code_40) rfl rfl ?_
  refine own_callC X1 hx hZ (y := (⟨"com/example/shingl/shingl/Fingerprint", "<init>", "([J)V"⟩ : MethodName)) rfl hown (hw _ (List.mem_of_getElem? (i := 14) rfl)) (hw _ (List.mem_of_getElem? (i := 15) rfl)) (hw _ (List.mem_of_getElem? (i := 10) rfl)) (hw _ (List.mem_of_getElem? (i := 16) rfl))  (by decide) (rm_init l Z a0 hw [] o1 a1 h1 n0 S2 A1 F4 ge1) (by decide) (W := 1) (by decide) (by decide) (by decide) e1 (by rw [hml]; rfl) (argsL := [(.ref a1)]) (rest := [(.ref o1)]) rfl (lenOf pd___J_V rfl) rfl (Nat.le_of_eq rfl) (pc' := 44) rfl (hb hby d_prog_9_method_3_code_41) ?_
  rintro _ T5 L5 X5 ⟨rfl, N5, K5, G5_0, G5_1⟩
  have M5 := Fr.app N0 N5
  obtain ⟨h5, e5⟩ : ∃ z, T5.heap = z := ⟨_, rfl⟩
  rw [e5] at K5 G5_0 G5_1
  have S6 := Nat.le_trans S2 K5.1
  have A7 := own_Arr.keep K5 A3 (ninS ne1_a1 nin0)
  have E8 := A1.keep K5
  have Q5 := Keep.trans K1 K5 (by intro z hz; cases List.mem_singleton.mp hz; exact Or.inr (Nat.le_of_eq g1.symm))
  show own_Goes p e below T5 (mkF m 44 #[.val (.ref a1), .val (.int (2 : Int32))] [(.ref o1)]) (own_Ret s (K_rm_st2 f1 x0 x1 Z h0 n0 a1) ({ frames := 2, cells := 1, slots := 1, locals := 26 } : Room).cells ({ frames := 2, cells := 1, slots := 1, locals := 26 } : Room).slots)
  refine own_aret X5 hx hlk hret rfl rfl (hb hby d_prog_9_method_3_code_44) (by decide) (by decide) ?_
  rw [e5]
  exact ⟨o1, rfl, M5, Q5, E8, G5_1, Nat.le_of_eq g1.symm⟩
theorem ef_rm_st3 (m : MethodId) (a1 : Addr) : entryFrame m #[(.ref a1)] 2 = mkF m 0 #[.val (.ref a1), .unset] [] := by first | (simp [entryFrame, mkF, argsToLocals, Value.category]; done) | rfl
def K_rm_st3 (f1 : Nat → Value) (x0 : Int64) (x1 : Int64) (x2 : Int64) (Z : State) (h0 : Heap) (n0 : Nat) (a1 : Addr) (v : Option Value) (h : Heap) (L : List Loc) : Prop := ∃ r, v = some (.ref r) ∧ Fr n0 L ∧ Keep h0 h [] ∧ Exa Z h r "com/example/shingl/shingl/Fingerprint" ∧ Fld Z h r "com/example/shingl/shingl/Fingerprint" "minutiae" "[J" (.ref a1) ∧ h0.size ≤ r
set_option maxRecDepth 65536 in
set_option maxHeartbeats 40000000 in
theorem rm_st3 (l : Launch) (Z : State) (a0 : Array Value) (hw : ∀ d ∈ tables_1, d.before a0 Z = true) (ws : List Jvm.Cond) (f1 : Nat → Value) (x0 : Int64) (x1 : Int64) (x2 : Int64) (a1 : Addr) (h0 : Heap) (n0 : Nat) (Z0 : n0 ≤ h0.size) (I0 : own_Arr Z h0 a1 .long 3 f1) (hf0 : f1 0 = .long x0) (hf1 : f1 1 = .long x1) (hf2 : f1 2 = .long x2) (hl0 : x0 < x1) (hl1 : x1 < x2) :
    MetFree l (⟨"com/example/shingl/shingl/Fingerprint", "stored", "([J)Lcom/example/shingl/shingl/Fingerprint;"⟩ : MethodName) (head1 (Jvm.Cond.code (⟨"com/example/shingl/shingl/Fingerprint", "stored", "([J)Lcom/example/shingl/shingl/Fingerprint;"⟩ : MethodName) prog_9_method_3_code 2 (some (.object "com/example/shingl/shingl/Fingerprint")) :: ws) ({ frames := 2, cells := 1, slots := 1, locals := 26 } : Room)) (fun a U => a = #[(.ref a1)] ∧ Z.Warmed39 U.vm ∧ U.heap = h0) (fun _ _ _ _ _ => True) (fun _ U o U' => ∃ v L, o = .returned v ∧ (K_rm_st3 f1 x0 x1 x2 Z h0 n0 a1) v U'.heap L ∧ FrameEnd U o U' L ({ frames := 2, cells := 1, slots := 1, locals := 26 } : Room).cells ({ frames := 2, cells := 1, slots := 1, locals := 26 } : Room).slots) := by
  refine own_body (plainFor_of_name pn_com_example_shingl_shingl_Fingerprint) ?_
  intro p e s m below meth c s₁ hx hby hml hown hnm hret hlk hZ X0 e0
  have hown : s.vm.findClass "com/example/shingl/shingl/Fingerprint" = some m.cls := hown
  have N0 := Fr.nil n0
  rw [ef_rm_st3 m a1]
  have K0 := Keep.refl h0 []
  refine own_iconst X0 hx (v := (1 : Int32)) (pc' := 1) rfl (hb hby d_prog_9_method_3_code_0) rfl ?_
  refine own_istoreN X0 hx (Ls' := #[.val (.ref a1), .val (.int (1 : Int32))]) (pc' := 2) rfl (hb hby d_prog_9_method_3_code_1) rfl ?_
  refine own_iloadN X0 hx (pc' := 3) rfl (hb hby d_prog_9_method_3_code_2) rfl ?_
  refine own_aloadN X0 hx (pc' := 4) rfl (hb hby d_prog_9_method_3_code_3) rfl rfl ?_
  refine own_len X0 hx hZ e0 I0 (v := (3 : Int32)) (by decide) (pc' := 5) rfl (hb hby d_prog_9_method_3_code_4) ?_
  refine own_icmpF X0 hx (pc' := 8) rfl (hb hby d_prog_9_method_3_code_5) (XT.ii_ge_f (by decide)) ?_
  refine own_aloadN X0 hx (pc' := 9) rfl (hb hby d_prog_9_method_3_code_8) rfl rfl ?_
  refine own_iloadN X0 hx (pc' := 10) rfl (hb hby d_prog_9_method_3_code_9) rfl ?_
  refine own_iconst X0 hx (v := (1 : Int32)) (pc' := 11) rfl (hb hby d_prog_9_method_3_code_10) rfl ?_
  refine own_isub X0 hx (v := (0 : Int32)) (pc' := 12) rfl (hb hby d_prog_9_method_3_code_11) (by decide) ?_
  refine own_ldJ X0 hx hZ e0 I0 (k := 0) (by decide) (by decide) (by decide) (v := (.long x0)) hf0 (pc' := 13) rfl (hb hby d_prog_9_method_3_code_12) ?_
  refine own_aloadN X0 hx (pc' := 14) rfl (hb hby d_prog_9_method_3_code_13) rfl rfl ?_
  refine own_iloadN X0 hx (pc' := 15) rfl (hb hby d_prog_9_method_3_code_14) rfl ?_
  refine own_ldJ X0 hx hZ e0 I0 (k := 1) (by decide) (by decide) (by decide) (v := (.long x1)) hf1 (pc' := 16) rfl (hb hby d_prog_9_method_3_code_15) ?_
  refine own_lcmp X0 hx (pc' := 17) rfl (hb hby d_prog_9_method_3_code_16) ?_
  refine own_ifT X0 hx (pc' := 30) (hb hby d_prog_9_method_3_code_17) (XT.ll_lt_t hl0) (by decide) (by decide) ?_
  refine own_iinc X0 hx (v := (2 : Int32)) (Ls' := #[.val (.ref a1), .val (.int (2 : Int32))]) (pc' := 33) rfl (hb hby d_prog_9_method_3_code_30) rfl (by decide) rfl ?_
  refine own_goto X0 hx (pc' := 2) (hb hby d_prog_9_method_3_code_33) (by decide) (by decide) ?_
  refine own_iloadN X0 hx (pc' := 3) rfl (hb hby d_prog_9_method_3_code_2) rfl ?_
  refine own_aloadN X0 hx (pc' := 4) rfl (hb hby d_prog_9_method_3_code_3) rfl rfl ?_
  refine own_len X0 hx hZ e0 I0 (v := (3 : Int32)) (by decide) (pc' := 5) rfl (hb hby d_prog_9_method_3_code_4) ?_
  refine own_icmpF X0 hx (pc' := 8) rfl (hb hby d_prog_9_method_3_code_5) (XT.ii_ge_f (by decide)) ?_
  refine own_aloadN X0 hx (pc' := 9) rfl (hb hby d_prog_9_method_3_code_8) rfl rfl ?_
  refine own_iloadN X0 hx (pc' := 10) rfl (hb hby d_prog_9_method_3_code_9) rfl ?_
  refine own_iconst X0 hx (v := (1 : Int32)) (pc' := 11) rfl (hb hby d_prog_9_method_3_code_10) rfl ?_
  refine own_isub X0 hx (v := (1 : Int32)) (pc' := 12) rfl (hb hby d_prog_9_method_3_code_11) (by decide) ?_
  refine own_ldJ X0 hx hZ e0 I0 (k := 1) (by decide) (by decide) (by decide) (v := (.long x1)) hf1 (pc' := 13) rfl (hb hby d_prog_9_method_3_code_12) ?_
  refine own_aloadN X0 hx (pc' := 14) rfl (hb hby d_prog_9_method_3_code_13) rfl rfl ?_
  refine own_iloadN X0 hx (pc' := 15) rfl (hb hby d_prog_9_method_3_code_14) rfl ?_
  refine own_ldJ X0 hx hZ e0 I0 (k := 2) (by decide) (by decide) (by decide) (v := (.long x2)) hf2 (pc' := 16) rfl (hb hby d_prog_9_method_3_code_15) ?_
  refine own_lcmp X0 hx (pc' := 17) rfl (hb hby d_prog_9_method_3_code_16) ?_
  refine own_ifT X0 hx (pc' := 30) (hb hby d_prog_9_method_3_code_17) (XT.ll_lt_t hl1) (by decide) (by decide) ?_
  refine own_iinc X0 hx (v := (3 : Int32)) (Ls' := #[.val (.ref a1), .val (.int (3 : Int32))]) (pc' := 33) rfl (hb hby d_prog_9_method_3_code_30) rfl (by decide) rfl ?_
  refine own_goto X0 hx (pc' := 2) (hb hby d_prog_9_method_3_code_33) (by decide) (by decide) ?_
  refine own_iloadN X0 hx (pc' := 3) rfl (hb hby d_prog_9_method_3_code_2) rfl ?_
  refine own_aloadN X0 hx (pc' := 4) rfl (hb hby d_prog_9_method_3_code_3) rfl rfl ?_
  refine own_len X0 hx hZ e0 I0 (v := (3 : Int32)) (by decide) (pc' := 5) rfl (hb hby d_prog_9_method_3_code_4) ?_
  refine own_icmpT X0 hx (pc' := 36) (hb hby d_prog_9_method_3_code_5) (XT.ii_ge_t (by decide)) (by decide) (by decide) ?_
  refine own_new X0 hx hZ hown (hw _ (List.mem_of_getElem? (i := 12) rfl)) (hw _ (List.mem_of_getElem? (i := 13) rfl)) (hw _ (List.mem_of_getElem? (i := 10) rfl)) e0 (pc' := 39) rfl (hb hby d_prog_9_method_3_code_36) (by decide) (by decide) ?_
  intro T1 h1 X1 e1 E1 A1 D1
  obtain ⟨o1, g1⟩ : ∃ z, z = h0.size := ⟨_, rfl⟩
  rw [← g1] at A1 D1 ⊢
  have ne1_a1 : a1 ≠ o1 := Nat.ne_of_lt (g1 ▸ (own_Arr.lt I0))
  have ge1 : n0 ≤ o1 := g1 ▸ Z0
  have S2 := Nat.le_trans Z0 E1.1
  have A3 := own_Arr.ext E1 I0
  have F4 : Fld Z h1 o1 "com/example/shingl/shingl/Fingerprint" "minutiae" "[J" .null := D1 (Or.inr (hw _ (List.mem_of_getElem? (i := 21) rfl))) (ty := (.array .long)) (by decide)
  have K1 := Keep.ext K0 E1
  refine own_dup X1 hx (pc' := 40) rfl (hb hby d_prog_9_method_3_code_39) rfl ?_
  refine own_aloadN X1 hx (pc' := 41) rfl (hb hby d_prog_9_method_3_code_40) rfl rfl ?_
  refine own_callC X1 hx hZ (y := (⟨"com/example/shingl/shingl/Fingerprint", "<init>", "([J)V"⟩ : MethodName)) rfl hown (hw _ (List.mem_of_getElem? (i := 14) rfl)) (hw _ (List.mem_of_getElem? (i := 15) rfl)) (hw _ (List.mem_of_getElem? (i := 10) rfl)) (hw _ (List.mem_of_getElem? (i := 16) rfl))  (by decide) (rm_init l Z a0 hw [] o1 a1 h1 n0 S2 A1 F4 ge1) (by decide) (W := 1) (by decide) (by decide) (by decide) e1 (by rw [hml]; rfl) (argsL := [(.ref a1)]) (rest := [(.ref o1)]) rfl (lenOf pd___J_V rfl) rfl (Nat.le_of_eq rfl) (pc' := 44) rfl (hb hby d_prog_9_method_3_code_41) ?_
  rintro _ T5 L5 X5 ⟨rfl, N5, K5, G5_0, G5_1⟩
  have M5 := Fr.app N0 N5
  obtain ⟨h5, e5⟩ : ∃ z, T5.heap = z := ⟨_, rfl⟩
  rw [e5] at K5 G5_0 G5_1
  have S6 := Nat.le_trans S2 K5.1
  have A7 := own_Arr.keep K5 A3 (ninS ne1_a1 nin0)
  have E8 := A1.keep K5
  have Q5 := Keep.trans K1 K5 (by intro z hz; cases List.mem_singleton.mp hz; exact Or.inr (Nat.le_of_eq g1.symm))
  show own_Goes p e below T5 (mkF m 44 #[.val (.ref a1), .val (.int (3 : Int32))] [(.ref o1)]) (own_Ret s (K_rm_st3 f1 x0 x1 x2 Z h0 n0 a1) ({ frames := 2, cells := 1, slots := 1, locals := 26 } : Room).cells ({ frames := 2, cells := 1, slots := 1, locals := 26 } : Room).slots)
  refine own_aret X5 hx hlk hret rfl rfl (hb hby d_prog_9_method_3_code_44) (by decide) (by decide) ?_
  rw [e5]
  exact ⟨o1, rfl, M5, Q5, E8, G5_1, Nat.le_of_eq g1.symm⟩
theorem ef_rm_law (m : MethodId) (p1 : Int32) (q2 : Int64) (q3 : Int64) (q4 : Int64) : entryFrame m #[(.int p1), (.long q2), (.long q3), (.long q4)] maxLocals = mkF m 0 #[.val (.int p1), .val (.long q2), .second, .val (.long q3), .second, .val (.long q4), .second, .unset, .unset, .unset, .unset, .unset, .unset, .unset, .unset, .unset, .unset] [] := by first | (simp [entryFrame, mkF, argsToLocals, Value.category, maxLocals]; done) | rfl
def K_rm_law  (Z : State) (h0 : Heap) (n0 : Nat) (p1 : Int32) (q2 : Int64) (q3 : Int64) (q4 : Int64) (v : Option Value) (h : Heap) (L : List Loc) : Prop := v = some (.int 1) ∧ Fr n0 L
theorem pd__JJ_J : parseMethodDescriptor "(JJ)J" = some ⟨[.long, .long], some .long⟩ := by decide +kernel
theorem pd___J_Lcom_example_shingl_shingl_Fingerprint_ : parseMethodDescriptor "([J)Lcom/example/shingl/shingl/Fingerprint;" = some ⟨[(.array .long)], some (.object "com/example/shingl/shingl/Fingerprint")⟩ := by decide +kernel
theorem pd___I : parseMethodDescriptor "()I" = some ⟨[], some .int⟩ := by decide +kernel
theorem pd__I_J : parseMethodDescriptor "(I)J" = some ⟨[.int], some .long⟩ := by decide +kernel
theorem pn_com_example_shingl_shingl_FingerprintStoredPinLaw : plainName "com/example/shingl/shingl/FingerprintStoredPinLaw" = true := by first | (simp [plainName, overriddenIn]; done) | decide +kernel
set_option maxRecDepth 65536 in
set_option maxHeartbeats 40000000 in
theorem rm_law (l : Launch) (Z : State) (a0 : Array Value) (hw : ∀ d ∈ tables_1, d.before a0 Z = true) (ws : List Jvm.Cond)  (p1 : Int32) (q2 : Int64) (q3 : Int64) (q4 : Int64) (h0 : Heap) (n0 : Nat) (Z0 : n0 ≤ h0.size) :
    MetFree l x (head1 (Jvm.Cond.code x code maxLocals ret :: ws) room_1) (fun a U => a = #[(.int p1), (.long q2), (.long q3), (.long q4)] ∧ Z.Warmed39 U.vm ∧ U.heap = h0) (fun _ _ _ _ _ => True) (fun _ U o U' => ∃ v L, o = .returned v ∧ (K_rm_law  Z h0 n0 p1 q2 q3 q4) v U'.heap L ∧ FrameEnd U o U' L room_1.cells room_1.slots) := by
  refine own_body (plainFor_of_name pn_com_example_shingl_shingl_FingerprintStoredPinLaw) ?_
  intro p e s m below meth c s₁ hx hby hml hown hnm hret hlk hZ X0 e0
  have hown : s.vm.findClass "com/example/shingl/shingl/FingerprintStoredPinLaw" = some m.cls := hown
  have N0 := Fr.nil n0
  rw [ef_rm_law m p1 q2 q3 q4]
  refine own_iloadN X0 hx (pc' := 1) rfl (hb hby at_0) rfl ?_
  refine own_iconst X0 hx (v := (3 : Int32)) (pc' := 2) rfl (hb hby at_1) rfl ?_
  refine own_iand X0 hx (v := (p1 &&& (3 : Int32))) (pc' := 3) rfl (hb hby at_2) rfl ?_
  have hn := own_and3 p1
  generalize (p1 &&& (3 : Int32)) = n at hn ⊢
  refine own_istore X0 hx (Ls' := #[.val (.int p1), .val (.long q2), .second, .val (.long q3), .second, .val (.long q4), .second, .val (.int n), .unset, .unset, .unset, .unset, .unset, .unset, .unset, .unset, .unset]) (pc' := 5) rfl (hb hby at_3) rfl ?_
  refine own_lloadN X0 hx (pc' := 6) rfl (hb hby at_5) rfl ?_
  refine own_lloadN X0 hx (pc' := 7) rfl (hb hby at_6) rfl ?_
  refine own_lload X0 hx (pc' := 9) rfl (hb hby at_7) rfl ?_
  refine own_callS X0 hx hZ (y := (⟨"java/lang/Math", "min", "(JJ)J"⟩ : MethodName)) hown (hw _ (List.mem_of_getElem? (i := 0) rfl)) (hw _ (List.mem_of_getElem? (i := 1) rfl)) (hw _ (List.mem_of_getElem? (i := 2) rfl)) (hw _ (List.mem_of_getElem? (i := 3) rfl))  (by decide) (rm_min l Z a0 hw [] q3 q4 h0 n0 Z0) (by decide) (W := 2) (by decide) (by decide) (by decide) e0 (by rw [hml]; rfl) (argsL := [(.long q3), (.long q4)]) (rest := [(.long q2)]) rfl (lenOf pd__JJ_J rfl) rfl (Nat.le_of_eq rfl) (pc' := 12) rfl (hb hby at_9) ?_
  rintro _ T1 L1 X1 ⟨rfl, N1, e1⟩
  have M1 := Fr.app N0 N1
  show own_Goes p e below T1 (mkF m 12 #[.val (.int p1), .val (.long q2), .second, .val (.long q3), .second, .val (.long q4), .second, .val (.int n), .unset, .unset, .unset, .unset, .unset, .unset, .unset, .unset, .unset] [(.long (own_min q3 q4)), (.long q2)]) (own_Ret s (K_rm_law  Z h0 n0 p1 q2 q3 q4) room_1.cells room_1.slots)
  refine own_callS X1 hx hZ (y := (⟨"java/lang/Math", "min", "(JJ)J"⟩ : MethodName)) hown (hw _ (List.mem_of_getElem? (i := 0) rfl)) (hw _ (List.mem_of_getElem? (i := 1) rfl)) (hw _ (List.mem_of_getElem? (i := 2) rfl)) (hw _ (List.mem_of_getElem? (i := 3) rfl))  (by decide) (rm_min l Z a0 hw [] q2 (own_min q3 q4) h0 n0 Z0) (by decide) (W := 0) (by decide) (by decide) (by decide) e1 (by rw [hml]; rfl) (argsL := [(.long q2), (.long (own_min q3 q4))]) (rest := []) rfl (lenOf pd__JJ_J rfl) rfl (Nat.le_of_eq rfl) (pc' := 15) rfl (hb hby at_12) ?_
  rintro _ T2 L2 X2 ⟨rfl, N2, e2⟩
  have M2 := Fr.app M1 N2
  show own_Goes p e below T2 (mkF m 15 #[.val (.int p1), .val (.long q2), .second, .val (.long q3), .second, .val (.long q4), .second, .val (.int n), .unset, .unset, .unset, .unset, .unset, .unset, .unset, .unset, .unset] [(.long (own_min q2 (own_min q3 q4)))]) (own_Ret s (K_rm_law  Z h0 n0 p1 q2 q3 q4) room_1.cells room_1.slots)
  generalize hlo : (own_min q2 (own_min q3 q4)) = lo
  refine own_lstore X2 hx (Ls' := #[.val (.int p1), .val (.long q2), .second, .val (.long q3), .second, .val (.long q4), .second, .val (.int n), .val (.long lo), .second, .unset, .unset, .unset, .unset, .unset, .unset, .unset]) (pc' := 17) rfl (hb hby at_15) rfl ?_
  refine own_lloadN X2 hx (pc' := 18) rfl (hb hby at_17) rfl ?_
  refine own_lloadN X2 hx (pc' := 19) rfl (hb hby at_18) rfl ?_
  refine own_lload X2 hx (pc' := 21) rfl (hb hby at_19) rfl ?_
  refine own_callS X2 hx hZ (y := (⟨"java/lang/Math", "max", "(JJ)J"⟩ : MethodName)) hown (hw _ (List.mem_of_getElem? (i := 4) rfl)) (hw _ (List.mem_of_getElem? (i := 5) rfl)) (hw _ (List.mem_of_getElem? (i := 2) rfl)) (hw _ (List.mem_of_getElem? (i := 6) rfl))  (by decide) (rm_max l Z a0 hw [] q3 q4 h0 n0 Z0) (by decide) (W := 2) (by decide) (by decide) (by decide) e2 (by rw [hml]; rfl) (argsL := [(.long q3), (.long q4)]) (rest := [(.long q2)]) rfl (lenOf pd__JJ_J rfl) rfl (Nat.le_of_eq rfl) (pc' := 24) rfl (hb hby at_21) ?_
  rintro _ T3 L3 X3 ⟨rfl, N3, e3⟩
  have M3 := Fr.app M2 N3
  show own_Goes p e below T3 (mkF m 24 #[.val (.int p1), .val (.long q2), .second, .val (.long q3), .second, .val (.long q4), .second, .val (.int n), .val (.long lo), .second, .unset, .unset, .unset, .unset, .unset, .unset, .unset] [(.long (own_max q3 q4)), (.long q2)]) (own_Ret s (K_rm_law  Z h0 n0 p1 q2 q3 q4) room_1.cells room_1.slots)
  refine own_callS X3 hx hZ (y := (⟨"java/lang/Math", "max", "(JJ)J"⟩ : MethodName)) hown (hw _ (List.mem_of_getElem? (i := 4) rfl)) (hw _ (List.mem_of_getElem? (i := 5) rfl)) (hw _ (List.mem_of_getElem? (i := 2) rfl)) (hw _ (List.mem_of_getElem? (i := 6) rfl))  (by decide) (rm_max l Z a0 hw [] q2 (own_max q3 q4) h0 n0 Z0) (by decide) (W := 0) (by decide) (by decide) (by decide) e3 (by rw [hml]; rfl) (argsL := [(.long q2), (.long (own_max q3 q4))]) (rest := []) rfl (lenOf pd__JJ_J rfl) rfl (Nat.le_of_eq rfl) (pc' := 27) rfl (hb hby at_24) ?_
  rintro _ T4 L4 X4 ⟨rfl, N4, e4⟩
  have M4 := Fr.app M3 N4
  show own_Goes p e below T4 (mkF m 27 #[.val (.int p1), .val (.long q2), .second, .val (.long q3), .second, .val (.long q4), .second, .val (.int n), .val (.long lo), .second, .unset, .unset, .unset, .unset, .unset, .unset, .unset] [(.long (own_max q2 (own_max q3 q4)))]) (own_Ret s (K_rm_law  Z h0 n0 p1 q2 q3 q4) room_1.cells room_1.slots)
  generalize hhi : (own_max q2 (own_max q3 q4)) = hi
  refine own_lstore X4 hx (Ls' := #[.val (.int p1), .val (.long q2), .second, .val (.long q3), .second, .val (.long q4), .second, .val (.int n), .val (.long lo), .second, .val (.long hi), .second, .unset, .unset, .unset, .unset, .unset]) (pc' := 29) rfl (hb hby at_27) rfl ?_
  refine own_lloadN X4 hx (pc' := 30) rfl (hb hby at_29) rfl ?_
  refine own_lloadN X4 hx (pc' := 31) rfl (hb hby at_30) rfl ?_
  refine own_callS X4 hx hZ (y := (⟨"java/lang/Math", "min", "(JJ)J"⟩ : MethodName)) hown (hw _ (List.mem_of_getElem? (i := 0) rfl)) (hw _ (List.mem_of_getElem? (i := 1) rfl)) (hw _ (List.mem_of_getElem? (i := 2) rfl)) (hw _ (List.mem_of_getElem? (i := 3) rfl))  (by decide) (rm_min l Z a0 hw [] q2 q3 h0 n0 Z0) (by decide) (W := 0) (by decide) (by decide) (by decide) e4 (by rw [hml]; rfl) (argsL := [(.long q2), (.long q3)]) (rest := []) rfl (lenOf pd__JJ_J rfl) rfl (Nat.le_of_eq rfl) (pc' := 34) rfl (hb hby at_31) ?_
  rintro _ T5 L5 X5 ⟨rfl, N5, e5⟩
  have M5 := Fr.app M4 N5
  show own_Goes p e below T5 (mkF m 34 #[.val (.int p1), .val (.long q2), .second, .val (.long q3), .second, .val (.long q4), .second, .val (.int n), .val (.long lo), .second, .val (.long hi), .second, .unset, .unset, .unset, .unset, .unset] [(.long (own_min q2 q3))]) (own_Ret s (K_rm_law  Z h0 n0 p1 q2 q3 q4) room_1.cells room_1.slots)
  refine own_lloadN X5 hx (pc' := 35) rfl (hb hby at_34) rfl ?_
  refine own_lloadN X5 hx (pc' := 36) rfl (hb hby at_35) rfl ?_
  refine own_callS X5 hx hZ (y := (⟨"java/lang/Math", "max", "(JJ)J"⟩ : MethodName)) hown (hw _ (List.mem_of_getElem? (i := 4) rfl)) (hw _ (List.mem_of_getElem? (i := 5) rfl)) (hw _ (List.mem_of_getElem? (i := 2) rfl)) (hw _ (List.mem_of_getElem? (i := 6) rfl))  (by decide) (rm_max l Z a0 hw [] q2 q3 h0 n0 Z0) (by decide) (W := 2) (by decide) (by decide) (by decide) e5 (by rw [hml]; rfl) (argsL := [(.long q2), (.long q3)]) (rest := [(.long (own_min q2 q3))]) rfl (lenOf pd__JJ_J rfl) rfl (Nat.le_of_eq rfl) (pc' := 39) rfl (hb hby at_36) ?_
  rintro _ T6 L6 X6 ⟨rfl, N6, e6⟩
  have M6 := Fr.app M5 N6
  show own_Goes p e below T6 (mkF m 39 #[.val (.int p1), .val (.long q2), .second, .val (.long q3), .second, .val (.long q4), .second, .val (.int n), .val (.long lo), .second, .val (.long hi), .second, .unset, .unset, .unset, .unset, .unset] [(.long (own_max q2 q3)), (.long (own_min q2 q3))]) (own_Ret s (K_rm_law  Z h0 n0 p1 q2 q3 q4) room_1.cells room_1.slots)
  refine own_lload X6 hx (pc' := 41) rfl (hb hby at_39) rfl ?_
  refine own_callS X6 hx hZ (y := (⟨"java/lang/Math", "min", "(JJ)J"⟩ : MethodName)) hown (hw _ (List.mem_of_getElem? (i := 0) rfl)) (hw _ (List.mem_of_getElem? (i := 1) rfl)) (hw _ (List.mem_of_getElem? (i := 2) rfl)) (hw _ (List.mem_of_getElem? (i := 3) rfl))  (by decide) (rm_min l Z a0 hw [] (own_max q2 q3) q4 h0 n0 Z0) (by decide) (W := 2) (by decide) (by decide) (by decide) e6 (by rw [hml]; rfl) (argsL := [(.long (own_max q2 q3)), (.long q4)]) (rest := [(.long (own_min q2 q3))]) rfl (lenOf pd__JJ_J rfl) rfl (Nat.le_of_eq rfl) (pc' := 44) rfl (hb hby at_41) ?_
  rintro _ T7 L7 X7 ⟨rfl, N7, e7⟩
  have M7 := Fr.app M6 N7
  show own_Goes p e below T7 (mkF m 44 #[.val (.int p1), .val (.long q2), .second, .val (.long q3), .second, .val (.long q4), .second, .val (.int n), .val (.long lo), .second, .val (.long hi), .second, .unset, .unset, .unset, .unset, .unset] [(.long (own_min (own_max q2 q3) q4)), (.long (own_min q2 q3))]) (own_Ret s (K_rm_law  Z h0 n0 p1 q2 q3 q4) room_1.cells room_1.slots)
  refine own_callS X7 hx hZ (y := (⟨"java/lang/Math", "max", "(JJ)J"⟩ : MethodName)) hown (hw _ (List.mem_of_getElem? (i := 4) rfl)) (hw _ (List.mem_of_getElem? (i := 5) rfl)) (hw _ (List.mem_of_getElem? (i := 2) rfl)) (hw _ (List.mem_of_getElem? (i := 6) rfl))  (by decide) (rm_max l Z a0 hw [] (own_min q2 q3) (own_min (own_max q2 q3) q4) h0 n0 Z0) (by decide) (W := 0) (by decide) (by decide) (by decide) e7 (by rw [hml]; rfl) (argsL := [(.long (own_min q2 q3)), (.long (own_min (own_max q2 q3) q4))]) (rest := []) rfl (lenOf pd__JJ_J rfl) rfl (Nat.le_of_eq rfl) (pc' := 47) rfl (hb hby at_44) ?_
  rintro _ T8 L8 X8 ⟨rfl, N8, e8⟩
  have M8 := Fr.app M7 N8
  show own_Goes p e below T8 (mkF m 47 #[.val (.int p1), .val (.long q2), .second, .val (.long q3), .second, .val (.long q4), .second, .val (.int n), .val (.long lo), .second, .val (.long hi), .second, .unset, .unset, .unset, .unset, .unset] [(.long (own_max (own_min q2 q3) (own_min (own_max q2 q3) q4)))]) (own_Ret s (K_rm_law  Z h0 n0 p1 q2 q3 q4) room_1.cells room_1.slots)
  generalize hmid : (own_max (own_min q2 q3) (own_min (own_max q2 q3) q4)) = mid
  have ho := own_ord hlo hhi hmid
  refine own_lstore X8 hx (Ls' := #[.val (.int p1), .val (.long q2), .second, .val (.long q3), .second, .val (.long q4), .second, .val (.int n), .val (.long lo), .second, .val (.long hi), .second, .val (.long mid), .second, .unset, .unset, .unset]) (pc' := 49) rfl (hb hby at_47) rfl ?_
  rcases hn with rfl | rfl | rfl | rfl
  · refine own_iload X8 hx (pc' := 51) rfl (hb hby at_49) rfl ?_
    refine own_iconst X8 hx (v := (2 : Int32)) (pc' := 52) rfl (hb hby at_51) rfl ?_
    refine own_icmpT X8 hx (pc' := 65) (hb hby at_52) (XT.ii_lt_t (by decide)) (by decide) (by decide) ?_
    refine own_iload X8 hx (pc' := 67) rfl (hb hby at_65) rfl ?_
    refine own_iconst X8 hx (v := (3 : Int32)) (pc' := 68) rfl (hb hby at_67) rfl ?_
    refine own_icmpT X8 hx (pc' := 81) (hb hby at_68) (XT.ii_ne_t (by decide)) (by decide) (by decide) ?_
    refine own_iload X8 hx (pc' := 83) rfl (hb hby at_81) rfl ?_
    refine own_ifF X8 hx (pc' := 86) rfl (hb hby at_83) (XT.i0_ne_f (by decide)) ?_
    refine own_iconst X8 hx (v := (0 : Int32)) (pc' := 87) rfl (hb hby at_86) rfl ?_
    refine own_newarr X8 hx hZ (aty := .long) (hw _ (List.mem_of_getElem? (i := 7) rfl)) e8 (pc' := 89) rfl (hb hby at_87) (by decide) (N := 0) (by decide) (cap := 0) (by decide) (by decide) (by decide) (by decide) ?_
    intro T9 h9 X9 e9 E9 A9
    obtain ⟨o9, g9⟩ : ∃ z, z = h0.size := ⟨_, rfl⟩
    rw [← g9] at A9 ⊢
    have ge9 : n0 ≤ o9 := g9 ▸ Z0
    have S10 := Nat.le_trans Z0 E9.1
    refine own_astore X9 hx (Ls' := #[.val (.int p1), .val (.long q2), .second, .val (.long q3), .second, .val (.long q4), .second, .val (.int (0 : Int32)), .val (.long lo), .second, .val (.long hi), .second, .val (.long mid), .second, .val (.ref o9), .unset, .unset]) (pc' := 91) rfl (hb hby at_89) rfl rfl ?_
    refine own_goto X9 hx (pc' := 157) (hb hby at_91) (by decide) (by decide) ?_
    refine own_aload X9 hx (pc' := 159) rfl (hb hby at_157) rfl rfl ?_
    refine own_callS X9 hx hZ (y := (⟨"com/example/shingl/shingl/Fingerprint", "stored", "([J)Lcom/example/shingl/shingl/Fingerprint;"⟩ : MethodName)) hown (hw _ (List.mem_of_getElem? (i := 8) rfl)) (hw _ (List.mem_of_getElem? (i := 9) rfl)) (hw _ (List.mem_of_getElem? (i := 10) rfl)) (hw _ (List.mem_of_getElem? (i := 11) rfl))  (by decide) (rm_st0 l Z a0 hw [] (fun _ => (.long (0 : Int64)))  o9 h9 n0 S10 A9 ) (by decide) (W := 0) (by decide) (by decide) (by decide) e9 (by rw [hml]; rfl) (argsL := [(.ref o9)]) (rest := []) rfl (lenOf pd___J_Lcom_example_shingl_shingl_Fingerprint_ rfl) rfl (Nat.le_of_eq rfl) (pc' := 162) rfl (hb hby at_159) ?_
    rintro _ T11 L11 X11 ⟨r11, rfl, N11, K11, A11, F11, g11⟩
    have M11 := Fr.app M8 N11
    obtain ⟨h11, e11⟩ : ∃ z, T11.heap = z := ⟨_, rfl⟩
    rw [e11] at K11 A11 F11
    have S12 := Nat.le_trans S10 K11.1
    have A13 := own_Arr.keep K11 A9 nin0
    show own_Goes p e below T11 (mkF m 162 #[.val (.int p1), .val (.long q2), .second, .val (.long q3), .second, .val (.long q4), .second, .val (.int (0 : Int32)), .val (.long lo), .second, .val (.long hi), .second, .val (.long mid), .second, .val (.ref o9), .unset, .unset] [(.ref r11)]) (own_Ret s (K_rm_law  Z h0 n0 p1 q2 q3 q4) room_1.cells room_1.slots)
    refine own_astore X11 hx (Ls' := #[.val (.int p1), .val (.long q2), .second, .val (.long q3), .second, .val (.long q4), .second, .val (.int (0 : Int32)), .val (.long lo), .second, .val (.long hi), .second, .val (.long mid), .second, .val (.ref o9), .val (.ref r11), .unset]) (pc' := 164) rfl (hb hby at_162) rfl rfl ?_
    refine own_aload X11 hx (pc' := 166) rfl (hb hby at_164) rfl rfl ?_
    refine own_callV X11 hx hZ (y := (⟨"com/example/shingl/shingl/Fingerprint", "size", "()I"⟩ : MethodName)) hown (hw _ (List.mem_of_getElem? (i := 22) rfl)) (hw _ (List.mem_of_getElem? (i := 23) rfl)) (hw _ (List.mem_of_getElem? (i := 25) rfl)) (hw _ (List.mem_of_getElem? (i := 24) rfl)) (hw _ (List.mem_of_getElem? (i := 10) rfl)) (hw _ (List.mem_of_getElem? (i := 26) rfl)) A11  (by decide) (rm_size l Z a0 hw [] o9 0 (fun _ => (.long (0 : Int64))) (0 : Int32) r11 h11 n0 S12 A11 F11 A13 (by decide)) (by decide) (W := 0) (by decide) (by decide) (by decide) e11 (by rw [hml]; rfl) (argsL := []) (rest := []) rfl (lenOf pd___I rfl) rfl (Nat.le_of_eq rfl) (pc' := 169) rfl (hb hby at_166) ?_
    rintro _ T14 L14 X14 ⟨rfl, N14, e14⟩
    have M14 := Fr.app M11 N14
    show own_Goes p e below T14 (mkF m 169 #[.val (.int p1), .val (.long q2), .second, .val (.long q3), .second, .val (.long q4), .second, .val (.int (0 : Int32)), .val (.long lo), .second, .val (.long hi), .second, .val (.long mid), .second, .val (.ref o9), .val (.ref r11), .unset] [(.int (0 : Int32))]) (own_Ret s (K_rm_law  Z h0 n0 p1 q2 q3 q4) room_1.cells room_1.slots)
    refine own_iload X14 hx (pc' := 171) rfl (hb hby at_169) rfl ?_
    refine own_icmpT X14 hx (pc' := 176) (hb hby at_171) (XT.ii_eq_t (by decide)) (by decide) (by decide) ?_
    refine own_iconst X14 hx (v := (1 : Int32)) (pc' := 177) rfl (hb hby at_176) rfl ?_
    refine own_istore X14 hx (Ls' := #[.val (.int p1), .val (.long q2), .second, .val (.long q3), .second, .val (.long q4), .second, .val (.int (0 : Int32)), .val (.long lo), .second, .val (.long hi), .second, .val (.long mid), .second, .val (.ref o9), .val (.ref r11), .val (.int (1 : Int32))]) (pc' := 179) rfl (hb hby at_177) rfl ?_
    refine own_iload X14 hx (pc' := 181) rfl (hb hby at_179) rfl ?_
    refine own_iconst X14 hx (v := (1 : Int32)) (pc' := 182) rfl (hb hby at_181) rfl ?_
    refine own_icmpT X14 hx (pc' := 209) (hb hby at_182) (XT.ii_lt_t (by decide)) (by decide) (by decide) ?_
    refine own_iload X14 hx (pc' := 211) rfl (hb hby at_209) rfl ?_
    refine own_iconst X14 hx (v := (2 : Int32)) (pc' := 212) rfl (hb hby at_211) rfl ?_
    refine own_icmpT X14 hx (pc' := 239) (hb hby at_212) (XT.ii_lt_t (by decide)) (by decide) (by decide) ?_
    refine own_iload X14 hx (pc' := 241) rfl (hb hby at_239) rfl ?_
    refine own_iconst X14 hx (v := (3 : Int32)) (pc' := 242) rfl (hb hby at_241) rfl ?_
    refine own_icmpT X14 hx (pc' := 269) (hb hby at_242) (XT.ii_ne_t (by decide)) (by decide) (by decide) ?_
    refine own_iload X14 hx (pc' := 271) rfl (hb hby at_269) rfl ?_
    refine own_zret X14 hx hlk hret (by simp) (hb hby at_271) (by decide) (by decide) ?_
    rw [e14]
    exact ⟨rfl, M14⟩
  · refine own_iload X8 hx (pc' := 51) rfl (hb hby at_49) rfl ?_
    refine own_iconst X8 hx (v := (2 : Int32)) (pc' := 52) rfl (hb hby at_51) rfl ?_
    refine own_icmpT X8 hx (pc' := 65) (hb hby at_52) (XT.ii_lt_t (by decide)) (by decide) (by decide) ?_
    refine own_iload X8 hx (pc' := 67) rfl (hb hby at_65) rfl ?_
    refine own_iconst X8 hx (v := (3 : Int32)) (pc' := 68) rfl (hb hby at_67) rfl ?_
    refine own_icmpT X8 hx (pc' := 81) (hb hby at_68) (XT.ii_ne_t (by decide)) (by decide) (by decide) ?_
    refine own_iload X8 hx (pc' := 83) rfl (hb hby at_81) rfl ?_
    refine own_ifT X8 hx (pc' := 94) (hb hby at_83) (XT.i0_ne_t (by decide)) (by decide) (by decide) ?_
    refine own_iload X8 hx (pc' := 96) rfl (hb hby at_94) rfl ?_
    refine own_iconst X8 hx (v := (1 : Int32)) (pc' := 97) rfl (hb hby at_96) rfl ?_
    refine own_icmpF X8 hx (pc' := 100) rfl (hb hby at_97) (XT.ii_ne_f (by decide)) ?_
    refine own_iconst X8 hx (v := (1 : Int32)) (pc' := 101) rfl (hb hby at_100) rfl ?_
    refine own_newarr X8 hx hZ (aty := .long) (hw _ (List.mem_of_getElem? (i := 7) rfl)) e8 (pc' := 103) rfl (hb hby at_101) (by decide) (N := 1) (by decide) (cap := 1) (by decide) (by decide) (by decide) (by decide) ?_
    intro T15 h15 X15 e15 E15 A15
    obtain ⟨o15, g15⟩ : ∃ z, z = h0.size := ⟨_, rfl⟩
    rw [← g15] at A15 ⊢
    have ge15 : n0 ≤ o15 := g15 ▸ Z0
    have S16 := Nat.le_trans Z0 E15.1
    refine own_dup X15 hx (pc' := 104) rfl (hb hby at_103) rfl ?_
    refine own_iconst X15 hx (v := (0 : Int32)) (pc' := 105) rfl (hb hby at_104) rfl ?_
    refine own_lload X15 hx (pc' := 107) rfl (hb hby at_105) rfl ?_
    refine own_stJ X15 hx hZ e15 A15 (k := 0) (by decide) (by decide) (by decide) (pc' := 108) rfl (hb hby at_107) ?_
    intro T17 h17 X17 e17 W17 A17
    have S18 := own_sizWr W17 S16
    have N17 := Fr.snoc X17 M8 ge15
    refine own_astore X17 hx (Ls' := #[.val (.int p1), .val (.long q2), .second, .val (.long q3), .second, .val (.long q4), .second, .val (.int (1 : Int32)), .val (.long lo), .second, .val (.long hi), .second, .val (.long mid), .second, .val (.ref o15), .unset, .unset]) (pc' := 110) rfl (hb hby at_108) rfl rfl ?_
    refine own_goto X17 hx (pc' := 157) (hb hby at_110) (by decide) (by decide) ?_
    refine own_aload X17 hx (pc' := 159) rfl (hb hby at_157) rfl rfl ?_
    refine own_callS X17 hx hZ (y := (⟨"com/example/shingl/shingl/Fingerprint", "stored", "([J)Lcom/example/shingl/shingl/Fingerprint;"⟩ : MethodName)) hown (hw _ (List.mem_of_getElem? (i := 8) rfl)) (hw _ (List.mem_of_getElem? (i := 9) rfl)) (hw _ (List.mem_of_getElem? (i := 10) rfl)) (hw _ (List.mem_of_getElem? (i := 11) rfl))  (by decide) (rm_st1 l Z a0 hw [] (own_upd (fun _ => (.long (0 : Int64))) 0 (.long lo)) lo o15 h17 n0 S18 A17 rfl) (by decide) (W := 0) (by decide) (by decide) (by decide) e17 (by rw [hml]; rfl) (argsL := [(.ref o15)]) (rest := []) rfl (lenOf pd___J_Lcom_example_shingl_shingl_Fingerprint_ rfl) rfl (Nat.le_of_eq rfl) (pc' := 162) rfl (hb hby at_159) ?_
    rintro _ T20 L20 X20 ⟨r20, rfl, N20, K20, A20, F20, g20⟩
    have M20 := Fr.app N17 N20
    obtain ⟨h20, e20⟩ : ∃ z, T20.heap = z := ⟨_, rfl⟩
    rw [e20] at K20 A20 F20
    have S21 := Nat.le_trans S18 K20.1
    have A22 := own_Arr.keep K20 A17 nin0
    show own_Goes p e below T20 (mkF m 162 #[.val (.int p1), .val (.long q2), .second, .val (.long q3), .second, .val (.long q4), .second, .val (.int (1 : Int32)), .val (.long lo), .second, .val (.long hi), .second, .val (.long mid), .second, .val (.ref o15), .unset, .unset] [(.ref r20)]) (own_Ret s (K_rm_law  Z h0 n0 p1 q2 q3 q4) room_1.cells room_1.slots)
    refine own_astore X20 hx (Ls' := #[.val (.int p1), .val (.long q2), .second, .val (.long q3), .second, .val (.long q4), .second, .val (.int (1 : Int32)), .val (.long lo), .second, .val (.long hi), .second, .val (.long mid), .second, .val (.ref o15), .val (.ref r20), .unset]) (pc' := 164) rfl (hb hby at_162) rfl rfl ?_
    refine own_aload X20 hx (pc' := 166) rfl (hb hby at_164) rfl rfl ?_
    refine own_callV X20 hx hZ (y := (⟨"com/example/shingl/shingl/Fingerprint", "size", "()I"⟩ : MethodName)) hown (hw _ (List.mem_of_getElem? (i := 22) rfl)) (hw _ (List.mem_of_getElem? (i := 23) rfl)) (hw _ (List.mem_of_getElem? (i := 25) rfl)) (hw _ (List.mem_of_getElem? (i := 24) rfl)) (hw _ (List.mem_of_getElem? (i := 10) rfl)) (hw _ (List.mem_of_getElem? (i := 26) rfl)) A20  (by decide) (rm_size l Z a0 hw [] o15 1 (own_upd (fun _ => (.long (0 : Int64))) 0 (.long lo)) (1 : Int32) r20 h20 n0 S21 A20 F20 A22 (by decide)) (by decide) (W := 0) (by decide) (by decide) (by decide) e20 (by rw [hml]; rfl) (argsL := []) (rest := []) rfl (lenOf pd___I rfl) rfl (Nat.le_of_eq rfl) (pc' := 169) rfl (hb hby at_166) ?_
    rintro _ T23 L23 X23 ⟨rfl, N23, e23⟩
    have M23 := Fr.app M20 N23
    show own_Goes p e below T23 (mkF m 169 #[.val (.int p1), .val (.long q2), .second, .val (.long q3), .second, .val (.long q4), .second, .val (.int (1 : Int32)), .val (.long lo), .second, .val (.long hi), .second, .val (.long mid), .second, .val (.ref o15), .val (.ref r20), .unset] [(.int (1 : Int32))]) (own_Ret s (K_rm_law  Z h0 n0 p1 q2 q3 q4) room_1.cells room_1.slots)
    refine own_iload X23 hx (pc' := 171) rfl (hb hby at_169) rfl ?_
    refine own_icmpT X23 hx (pc' := 176) (hb hby at_171) (XT.ii_eq_t (by decide)) (by decide) (by decide) ?_
    refine own_iconst X23 hx (v := (1 : Int32)) (pc' := 177) rfl (hb hby at_176) rfl ?_
    refine own_istore X23 hx (Ls' := #[.val (.int p1), .val (.long q2), .second, .val (.long q3), .second, .val (.long q4), .second, .val (.int (1 : Int32)), .val (.long lo), .second, .val (.long hi), .second, .val (.long mid), .second, .val (.ref o15), .val (.ref r20), .val (.int (1 : Int32))]) (pc' := 179) rfl (hb hby at_177) rfl ?_
    refine own_iload X23 hx (pc' := 181) rfl (hb hby at_179) rfl ?_
    refine own_iconst X23 hx (v := (1 : Int32)) (pc' := 182) rfl (hb hby at_181) rfl ?_
    refine own_icmpF X23 hx (pc' := 185) rfl (hb hby at_182) (XT.ii_lt_f (by decide)) ?_
    refine own_iload X23 hx (pc' := 187) rfl (hb hby at_185) rfl ?_
    refine own_ifF X23 hx (pc' := 190) rfl (hb hby at_187) (XT.i0_eq_f (by decide)) ?_
    refine own_aload X23 hx (pc' := 192) rfl (hb hby at_190) rfl rfl ?_
    refine own_iconst X23 hx (v := (0 : Int32)) (pc' := 193) rfl (hb hby at_192) rfl ?_
    refine own_callV X23 hx hZ (y := (⟨"com/example/shingl/shingl/Fingerprint", "minutia", "(I)J"⟩ : MethodName)) hown (hw _ (List.mem_of_getElem? (i := 27) rfl)) (hw _ (List.mem_of_getElem? (i := 28) rfl)) (hw _ (List.mem_of_getElem? (i := 30) rfl)) (hw _ (List.mem_of_getElem? (i := 29) rfl)) (hw _ (List.mem_of_getElem? (i := 10) rfl)) (hw _ (List.mem_of_getElem? (i := 31) rfl)) A20  (by decide) (rm_mnt l Z a0 hw [] o15 1 (own_upd (fun _ => (.long (0 : Int64))) 0 (.long lo)) 0 lo r20 (0 : Int32) h20 n0 S21 A20 F20 A22 (by decide) (by decide) (by decide) rfl) (by decide) (W := 0) (by decide) (by decide) (by decide) e23 (by rw [hml]; rfl) (argsL := [(.int (0 : Int32))]) (rest := []) rfl (lenOf pd__I_J rfl) rfl (Nat.le_of_eq rfl) (pc' := 196) rfl (hb hby at_193) ?_
    rintro _ T24 L24 X24 ⟨rfl, N24, e24⟩
    have M24 := Fr.app M23 N24
    show own_Goes p e below T24 (mkF m 196 #[.val (.int p1), .val (.long q2), .second, .val (.long q3), .second, .val (.long q4), .second, .val (.int (1 : Int32)), .val (.long lo), .second, .val (.long hi), .second, .val (.long mid), .second, .val (.ref o15), .val (.ref r20), .val (.int (1 : Int32))] [(.long lo)]) (own_Ret s (K_rm_law  Z h0 n0 p1 q2 q3 q4) room_1.cells room_1.slots)
    refine own_lload X24 hx (pc' := 198) rfl (hb hby at_196) rfl ?_
    refine own_lcmp X24 hx (pc' := 199) rfl (hb hby at_198) ?_
    refine own_ifF X24 hx (pc' := 202) rfl (hb hby at_199) (XT.ll_ne_f rfl) ?_
    refine own_iconst X24 hx (v := (1 : Int32)) (pc' := 203) rfl (hb hby at_202) rfl ?_
    refine own_goto X24 hx (pc' := 207) (hb hby at_203) (by decide) (by decide) ?_
    refine own_istore X24 hx (Ls' := #[.val (.int p1), .val (.long q2), .second, .val (.long q3), .second, .val (.long q4), .second, .val (.int (1 : Int32)), .val (.long lo), .second, .val (.long hi), .second, .val (.long mid), .second, .val (.ref o15), .val (.ref r20), .val (.int (1 : Int32))]) (pc' := 209) rfl (hb hby at_207) rfl ?_
    refine own_iload X24 hx (pc' := 211) rfl (hb hby at_209) rfl ?_
    refine own_iconst X24 hx (v := (2 : Int32)) (pc' := 212) rfl (hb hby at_211) rfl ?_
    refine own_icmpT X24 hx (pc' := 239) (hb hby at_212) (XT.ii_lt_t (by decide)) (by decide) (by decide) ?_
    refine own_iload X24 hx (pc' := 241) rfl (hb hby at_239) rfl ?_
    refine own_iconst X24 hx (v := (3 : Int32)) (pc' := 242) rfl (hb hby at_241) rfl ?_
    refine own_icmpT X24 hx (pc' := 269) (hb hby at_242) (XT.ii_ne_t (by decide)) (by decide) (by decide) ?_
    refine own_iload X24 hx (pc' := 271) rfl (hb hby at_269) rfl ?_
    refine own_zret X24 hx hlk hret (by simp) (hb hby at_271) (by decide) (by decide) ?_
    rw [e24]
    exact ⟨rfl, M24⟩
  · refine own_iload X8 hx (pc' := 51) rfl (hb hby at_49) rfl ?_
    refine own_iconst X8 hx (v := (2 : Int32)) (pc' := 52) rfl (hb hby at_51) rfl ?_
    refine own_icmpF X8 hx (pc' := 55) rfl (hb hby at_52) (XT.ii_lt_f (by decide)) ?_
    refine own_lload X8 hx (pc' := 57) rfl (hb hby at_55) rfl ?_
    refine own_lload X8 hx (pc' := 59) rfl (hb hby at_57) rfl ?_
    refine own_lcmp X8 hx (pc' := 60) rfl (hb hby at_59) ?_
    by_cases c60_25 : lo = mid
    · refine own_ifF X8 hx (pc' := 63) rfl (hb hby at_60) (XT.ll_ne_f c60_25) ?_
      refine own_iconst X8 hx (v := (1 : Int32)) (pc' := 64) rfl (hb hby at_63) rfl ?_
      refine own_zret X8 hx hlk hret (by simp) (hb hby at_64) (by decide) (by decide) ?_
      rw [e8]
      exact ⟨rfl, M8⟩
    · refine own_ifT X8 hx (pc' := 65) (hb hby at_60) (XT.ll_ne_t c60_25) (by decide) (by decide) ?_
      refine own_iload X8 hx (pc' := 67) rfl (hb hby at_65) rfl ?_
      refine own_iconst X8 hx (v := (3 : Int32)) (pc' := 68) rfl (hb hby at_67) rfl ?_
      refine own_icmpT X8 hx (pc' := 81) (hb hby at_68) (XT.ii_ne_t (by decide)) (by decide) (by decide) ?_
      refine own_iload X8 hx (pc' := 83) rfl (hb hby at_81) rfl ?_
      refine own_ifT X8 hx (pc' := 94) (hb hby at_83) (XT.i0_ne_t (by decide)) (by decide) (by decide) ?_
      refine own_iload X8 hx (pc' := 96) rfl (hb hby at_94) rfl ?_
      refine own_iconst X8 hx (v := (1 : Int32)) (pc' := 97) rfl (hb hby at_96) rfl ?_
      refine own_icmpT X8 hx (pc' := 113) (hb hby at_97) (XT.ii_ne_t (by decide)) (by decide) (by decide) ?_
      refine own_iload X8 hx (pc' := 115) rfl (hb hby at_113) rfl ?_
      refine own_iconst X8 hx (v := (2 : Int32)) (pc' := 116) rfl (hb hby at_115) rfl ?_
      refine own_icmpF X8 hx (pc' := 119) rfl (hb hby at_116) (XT.ii_ne_f (by decide)) ?_
      refine own_iconst X8 hx (v := (2 : Int32)) (pc' := 120) rfl (hb hby at_119) rfl ?_
      refine own_newarr X8 hx hZ (aty := .long) (hw _ (List.mem_of_getElem? (i := 7) rfl)) e8 (pc' := 122) rfl (hb hby at_120) (by decide) (N := 2) (by decide) (cap := 2) (by decide) (by decide) (by decide) (by decide) ?_
      intro T26 h26 X26 e26 E26 A26
      obtain ⟨o26, g26⟩ : ∃ z, z = h0.size := ⟨_, rfl⟩
      rw [← g26] at A26 ⊢
      have ge26 : n0 ≤ o26 := g26 ▸ Z0
      have S27 := Nat.le_trans Z0 E26.1
      refine own_dup X26 hx (pc' := 123) rfl (hb hby at_122) rfl ?_
      refine own_iconst X26 hx (v := (0 : Int32)) (pc' := 124) rfl (hb hby at_123) rfl ?_
      refine own_lload X26 hx (pc' := 126) rfl (hb hby at_124) rfl ?_
      refine own_stJ X26 hx hZ e26 A26 (k := 0) (by decide) (by decide) (by decide) (pc' := 127) rfl (hb hby at_126) ?_
      intro T28 h28 X28 e28 W28 A28
      have S29 := own_sizWr W28 S27
      have N28 := Fr.snoc X28 M8 ge26
      refine own_dup X28 hx (pc' := 128) rfl (hb hby at_127) rfl ?_
      refine own_iconst X28 hx (v := (1 : Int32)) (pc' := 129) rfl (hb hby at_128) rfl ?_
      refine own_lload X28 hx (pc' := 131) rfl (hb hby at_129) rfl ?_
      refine own_stJ X28 hx hZ e28 A28 (k := 1) (by decide) (by decide) (by decide) (pc' := 132) rfl (hb hby at_131) ?_
      intro T31 h31 X31 e31 W31 A31
      have S32 := own_sizWr W31 S29
      have N31 := Fr.snoc X31 N28 ge26
      refine own_astore X31 hx (Ls' := #[.val (.int p1), .val (.long q2), .second, .val (.long q3), .second, .val (.long q4), .second, .val (.int (2 : Int32)), .val (.long lo), .second, .val (.long hi), .second, .val (.long mid), .second, .val (.ref o26), .unset, .unset]) (pc' := 134) rfl (hb hby at_132) rfl rfl ?_
      refine own_goto X31 hx (pc' := 157) (hb hby at_134) (by decide) (by decide) ?_
      refine own_aload X31 hx (pc' := 159) rfl (hb hby at_157) rfl rfl ?_
      refine own_callS X31 hx hZ (y := (⟨"com/example/shingl/shingl/Fingerprint", "stored", "([J)Lcom/example/shingl/shingl/Fingerprint;"⟩ : MethodName)) hown (hw _ (List.mem_of_getElem? (i := 8) rfl)) (hw _ (List.mem_of_getElem? (i := 9) rfl)) (hw _ (List.mem_of_getElem? (i := 10) rfl)) (hw _ (List.mem_of_getElem? (i := 11) rfl))  (by decide) (rm_st2 l Z a0 hw [] (own_upd (own_upd (fun _ => (.long (0 : Int64))) 0 (.long lo)) 1 (.long mid)) lo mid o26 h31 n0 S32 A31 rfl rfl (own_lt ho.1 c60_25)) (by decide) (W := 0) (by decide) (by decide) (by decide) e31 (by rw [hml]; rfl) (argsL := [(.ref o26)]) (rest := []) rfl (lenOf pd___J_Lcom_example_shingl_shingl_Fingerprint_ rfl) rfl (Nat.le_of_eq rfl) (pc' := 162) rfl (hb hby at_159) ?_
      rintro _ T34 L34 X34 ⟨r34, rfl, N34, K34, A34, F34, g34⟩
      have M34 := Fr.app N31 N34
      obtain ⟨h34, e34⟩ : ∃ z, T34.heap = z := ⟨_, rfl⟩
      rw [e34] at K34 A34 F34
      have S35 := Nat.le_trans S32 K34.1
      have A36 := own_Arr.keep K34 A31 nin0
      show own_Goes p e below T34 (mkF m 162 #[.val (.int p1), .val (.long q2), .second, .val (.long q3), .second, .val (.long q4), .second, .val (.int (2 : Int32)), .val (.long lo), .second, .val (.long hi), .second, .val (.long mid), .second, .val (.ref o26), .unset, .unset] [(.ref r34)]) (own_Ret s (K_rm_law  Z h0 n0 p1 q2 q3 q4) room_1.cells room_1.slots)
      refine own_astore X34 hx (Ls' := #[.val (.int p1), .val (.long q2), .second, .val (.long q3), .second, .val (.long q4), .second, .val (.int (2 : Int32)), .val (.long lo), .second, .val (.long hi), .second, .val (.long mid), .second, .val (.ref o26), .val (.ref r34), .unset]) (pc' := 164) rfl (hb hby at_162) rfl rfl ?_
      refine own_aload X34 hx (pc' := 166) rfl (hb hby at_164) rfl rfl ?_
      refine own_callV X34 hx hZ (y := (⟨"com/example/shingl/shingl/Fingerprint", "size", "()I"⟩ : MethodName)) hown (hw _ (List.mem_of_getElem? (i := 22) rfl)) (hw _ (List.mem_of_getElem? (i := 23) rfl)) (hw _ (List.mem_of_getElem? (i := 25) rfl)) (hw _ (List.mem_of_getElem? (i := 24) rfl)) (hw _ (List.mem_of_getElem? (i := 10) rfl)) (hw _ (List.mem_of_getElem? (i := 26) rfl)) A34  (by decide) (rm_size l Z a0 hw [] o26 2 (own_upd (own_upd (fun _ => (.long (0 : Int64))) 0 (.long lo)) 1 (.long mid)) (2 : Int32) r34 h34 n0 S35 A34 F34 A36 (by decide)) (by decide) (W := 0) (by decide) (by decide) (by decide) e34 (by rw [hml]; rfl) (argsL := []) (rest := []) rfl (lenOf pd___I rfl) rfl (Nat.le_of_eq rfl) (pc' := 169) rfl (hb hby at_166) ?_
      rintro _ T37 L37 X37 ⟨rfl, N37, e37⟩
      have M37 := Fr.app M34 N37
      show own_Goes p e below T37 (mkF m 169 #[.val (.int p1), .val (.long q2), .second, .val (.long q3), .second, .val (.long q4), .second, .val (.int (2 : Int32)), .val (.long lo), .second, .val (.long hi), .second, .val (.long mid), .second, .val (.ref o26), .val (.ref r34), .unset] [(.int (2 : Int32))]) (own_Ret s (K_rm_law  Z h0 n0 p1 q2 q3 q4) room_1.cells room_1.slots)
      refine own_iload X37 hx (pc' := 171) rfl (hb hby at_169) rfl ?_
      refine own_icmpT X37 hx (pc' := 176) (hb hby at_171) (XT.ii_eq_t (by decide)) (by decide) (by decide) ?_
      refine own_iconst X37 hx (v := (1 : Int32)) (pc' := 177) rfl (hb hby at_176) rfl ?_
      refine own_istore X37 hx (Ls' := #[.val (.int p1), .val (.long q2), .second, .val (.long q3), .second, .val (.long q4), .second, .val (.int (2 : Int32)), .val (.long lo), .second, .val (.long hi), .second, .val (.long mid), .second, .val (.ref o26), .val (.ref r34), .val (.int (1 : Int32))]) (pc' := 179) rfl (hb hby at_177) rfl ?_
      refine own_iload X37 hx (pc' := 181) rfl (hb hby at_179) rfl ?_
      refine own_iconst X37 hx (v := (1 : Int32)) (pc' := 182) rfl (hb hby at_181) rfl ?_
      refine own_icmpF X37 hx (pc' := 185) rfl (hb hby at_182) (XT.ii_lt_f (by decide)) ?_
      refine own_iload X37 hx (pc' := 187) rfl (hb hby at_185) rfl ?_
      refine own_ifF X37 hx (pc' := 190) rfl (hb hby at_187) (XT.i0_eq_f (by decide)) ?_
      refine own_aload X37 hx (pc' := 192) rfl (hb hby at_190) rfl rfl ?_
      refine own_iconst X37 hx (v := (0 : Int32)) (pc' := 193) rfl (hb hby at_192) rfl ?_
      refine own_callV X37 hx hZ (y := (⟨"com/example/shingl/shingl/Fingerprint", "minutia", "(I)J"⟩ : MethodName)) hown (hw _ (List.mem_of_getElem? (i := 27) rfl)) (hw _ (List.mem_of_getElem? (i := 28) rfl)) (hw _ (List.mem_of_getElem? (i := 30) rfl)) (hw _ (List.mem_of_getElem? (i := 29) rfl)) (hw _ (List.mem_of_getElem? (i := 10) rfl)) (hw _ (List.mem_of_getElem? (i := 31) rfl)) A34  (by decide) (rm_mnt l Z a0 hw [] o26 2 (own_upd (own_upd (fun _ => (.long (0 : Int64))) 0 (.long lo)) 1 (.long mid)) 0 lo r34 (0 : Int32) h34 n0 S35 A34 F34 A36 (by decide) (by decide) (by decide) rfl) (by decide) (W := 0) (by decide) (by decide) (by decide) e37 (by rw [hml]; rfl) (argsL := [(.int (0 : Int32))]) (rest := []) rfl (lenOf pd__I_J rfl) rfl (Nat.le_of_eq rfl) (pc' := 196) rfl (hb hby at_193) ?_
      rintro _ T38 L38 X38 ⟨rfl, N38, e38⟩
      have M38 := Fr.app M37 N38
      show own_Goes p e below T38 (mkF m 196 #[.val (.int p1), .val (.long q2), .second, .val (.long q3), .second, .val (.long q4), .second, .val (.int (2 : Int32)), .val (.long lo), .second, .val (.long hi), .second, .val (.long mid), .second, .val (.ref o26), .val (.ref r34), .val (.int (1 : Int32))] [(.long lo)]) (own_Ret s (K_rm_law  Z h0 n0 p1 q2 q3 q4) room_1.cells room_1.slots)
      refine own_lload X38 hx (pc' := 198) rfl (hb hby at_196) rfl ?_
      refine own_lcmp X38 hx (pc' := 199) rfl (hb hby at_198) ?_
      refine own_ifF X38 hx (pc' := 202) rfl (hb hby at_199) (XT.ll_ne_f rfl) ?_
      refine own_iconst X38 hx (v := (1 : Int32)) (pc' := 203) rfl (hb hby at_202) rfl ?_
      refine own_goto X38 hx (pc' := 207) (hb hby at_203) (by decide) (by decide) ?_
      refine own_istore X38 hx (Ls' := #[.val (.int p1), .val (.long q2), .second, .val (.long q3), .second, .val (.long q4), .second, .val (.int (2 : Int32)), .val (.long lo), .second, .val (.long hi), .second, .val (.long mid), .second, .val (.ref o26), .val (.ref r34), .val (.int (1 : Int32))]) (pc' := 209) rfl (hb hby at_207) rfl ?_
      refine own_iload X38 hx (pc' := 211) rfl (hb hby at_209) rfl ?_
      refine own_iconst X38 hx (v := (2 : Int32)) (pc' := 212) rfl (hb hby at_211) rfl ?_
      refine own_icmpF X38 hx (pc' := 215) rfl (hb hby at_212) (XT.ii_lt_f (by decide)) ?_
      refine own_iload X38 hx (pc' := 217) rfl (hb hby at_215) rfl ?_
      refine own_ifF X38 hx (pc' := 220) rfl (hb hby at_217) (XT.i0_eq_f (by decide)) ?_
      refine own_aload X38 hx (pc' := 222) rfl (hb hby at_220) rfl rfl ?_
      refine own_iconst X38 hx (v := (1 : Int32)) (pc' := 223) rfl (hb hby at_222) rfl ?_
      refine own_callV X38 hx hZ (y := (⟨"com/example/shingl/shingl/Fingerprint", "minutia", "(I)J"⟩ : MethodName)) hown (hw _ (List.mem_of_getElem? (i := 27) rfl)) (hw _ (List.mem_of_getElem? (i := 28) rfl)) (hw _ (List.mem_of_getElem? (i := 30) rfl)) (hw _ (List.mem_of_getElem? (i := 29) rfl)) (hw _ (List.mem_of_getElem? (i := 10) rfl)) (hw _ (List.mem_of_getElem? (i := 31) rfl)) A34  (by decide) (rm_mnt l Z a0 hw [] o26 2 (own_upd (own_upd (fun _ => (.long (0 : Int64))) 0 (.long lo)) 1 (.long mid)) 1 mid r34 (1 : Int32) h34 n0 S35 A34 F34 A36 (by decide) (by decide) (by decide) rfl) (by decide) (W := 0) (by decide) (by decide) (by decide) e38 (by rw [hml]; rfl) (argsL := [(.int (1 : Int32))]) (rest := []) rfl (lenOf pd__I_J rfl) rfl (Nat.le_of_eq rfl) (pc' := 226) rfl (hb hby at_223) ?_
      rintro _ T39 L39 X39 ⟨rfl, N39, e39⟩
      have M39 := Fr.app M38 N39
      show own_Goes p e below T39 (mkF m 226 #[.val (.int p1), .val (.long q2), .second, .val (.long q3), .second, .val (.long q4), .second, .val (.int (2 : Int32)), .val (.long lo), .second, .val (.long hi), .second, .val (.long mid), .second, .val (.ref o26), .val (.ref r34), .val (.int (1 : Int32))] [(.long mid)]) (own_Ret s (K_rm_law  Z h0 n0 p1 q2 q3 q4) room_1.cells room_1.slots)
      refine own_lload X39 hx (pc' := 228) rfl (hb hby at_226) rfl ?_
      refine own_lcmp X39 hx (pc' := 229) rfl (hb hby at_228) ?_
      refine own_ifF X39 hx (pc' := 232) rfl (hb hby at_229) (XT.ll_ne_f rfl) ?_
      refine own_iconst X39 hx (v := (1 : Int32)) (pc' := 233) rfl (hb hby at_232) rfl ?_
      refine own_goto X39 hx (pc' := 237) (hb hby at_233) (by decide) (by decide) ?_
      refine own_istore X39 hx (Ls' := #[.val (.int p1), .val (.long q2), .second, .val (.long q3), .second, .val (.long q4), .second, .val (.int (2 : Int32)), .val (.long lo), .second, .val (.long hi), .second, .val (.long mid), .second, .val (.ref o26), .val (.ref r34), .val (.int (1 : Int32))]) (pc' := 239) rfl (hb hby at_237) rfl ?_
      refine own_iload X39 hx (pc' := 241) rfl (hb hby at_239) rfl ?_
      refine own_iconst X39 hx (v := (3 : Int32)) (pc' := 242) rfl (hb hby at_241) rfl ?_
      refine own_icmpT X39 hx (pc' := 269) (hb hby at_242) (XT.ii_ne_t (by decide)) (by decide) (by decide) ?_
      refine own_iload X39 hx (pc' := 271) rfl (hb hby at_269) rfl ?_
      refine own_zret X39 hx hlk hret (by simp) (hb hby at_271) (by decide) (by decide) ?_
      rw [e39]
      exact ⟨rfl, M39⟩
  · refine own_iload X8 hx (pc' := 51) rfl (hb hby at_49) rfl ?_
    refine own_iconst X8 hx (v := (2 : Int32)) (pc' := 52) rfl (hb hby at_51) rfl ?_
    refine own_icmpF X8 hx (pc' := 55) rfl (hb hby at_52) (XT.ii_lt_f (by decide)) ?_
    refine own_lload X8 hx (pc' := 57) rfl (hb hby at_55) rfl ?_
    refine own_lload X8 hx (pc' := 59) rfl (hb hby at_57) rfl ?_
    refine own_lcmp X8 hx (pc' := 60) rfl (hb hby at_59) ?_
    by_cases c60_40 : lo = mid
    · refine own_ifF X8 hx (pc' := 63) rfl (hb hby at_60) (XT.ll_ne_f c60_40) ?_
      refine own_iconst X8 hx (v := (1 : Int32)) (pc' := 64) rfl (hb hby at_63) rfl ?_
      refine own_zret X8 hx hlk hret (by simp) (hb hby at_64) (by decide) (by decide) ?_
      rw [e8]
      exact ⟨rfl, M8⟩
    · refine own_ifT X8 hx (pc' := 65) (hb hby at_60) (XT.ll_ne_t c60_40) (by decide) (by decide) ?_
      refine own_iload X8 hx (pc' := 67) rfl (hb hby at_65) rfl ?_
      refine own_iconst X8 hx (v := (3 : Int32)) (pc' := 68) rfl (hb hby at_67) rfl ?_
      refine own_icmpF X8 hx (pc' := 71) rfl (hb hby at_68) (XT.ii_ne_f (by decide)) ?_
      refine own_lload X8 hx (pc' := 73) rfl (hb hby at_71) rfl ?_
      refine own_lload X8 hx (pc' := 75) rfl (hb hby at_73) rfl ?_
      refine own_lcmp X8 hx (pc' := 76) rfl (hb hby at_75) ?_
      by_cases c76_41 : mid = hi
      · refine own_ifF X8 hx (pc' := 79) rfl (hb hby at_76) (XT.ll_ne_f c76_41) ?_
        refine own_iconst X8 hx (v := (1 : Int32)) (pc' := 80) rfl (hb hby at_79) rfl ?_
        refine own_zret X8 hx hlk hret (by simp) (hb hby at_80) (by decide) (by decide) ?_
        rw [e8]
        exact ⟨rfl, M8⟩
      · refine own_ifT X8 hx (pc' := 81) (hb hby at_76) (XT.ll_ne_t c76_41) (by decide) (by decide) ?_
        refine own_iload X8 hx (pc' := 83) rfl (hb hby at_81) rfl ?_
        refine own_ifT X8 hx (pc' := 94) (hb hby at_83) (XT.i0_ne_t (by decide)) (by decide) (by decide) ?_
        refine own_iload X8 hx (pc' := 96) rfl (hb hby at_94) rfl ?_
        refine own_iconst X8 hx (v := (1 : Int32)) (pc' := 97) rfl (hb hby at_96) rfl ?_
        refine own_icmpT X8 hx (pc' := 113) (hb hby at_97) (XT.ii_ne_t (by decide)) (by decide) (by decide) ?_
        refine own_iload X8 hx (pc' := 115) rfl (hb hby at_113) rfl ?_
        refine own_iconst X8 hx (v := (2 : Int32)) (pc' := 116) rfl (hb hby at_115) rfl ?_
        refine own_icmpT X8 hx (pc' := 137) (hb hby at_116) (XT.ii_ne_t (by decide)) (by decide) (by decide) ?_
        refine own_iconst X8 hx (v := (3 : Int32)) (pc' := 138) rfl (hb hby at_137) rfl ?_
        refine own_newarr X8 hx hZ (aty := .long) (hw _ (List.mem_of_getElem? (i := 7) rfl)) e8 (pc' := 140) rfl (hb hby at_138) (by decide) (N := 3) (by decide) (cap := 3) (by decide) (by decide) (by decide) (by decide) ?_
        intro T42 h42 X42 e42 E42 A42
        obtain ⟨o42, g42⟩ : ∃ z, z = h0.size := ⟨_, rfl⟩
        rw [← g42] at A42 ⊢
        have ge42 : n0 ≤ o42 := g42 ▸ Z0
        have S43 := Nat.le_trans Z0 E42.1
        refine own_dup X42 hx (pc' := 141) rfl (hb hby at_140) rfl ?_
        refine own_iconst X42 hx (v := (0 : Int32)) (pc' := 142) rfl (hb hby at_141) rfl ?_
        refine own_lload X42 hx (pc' := 144) rfl (hb hby at_142) rfl ?_
        refine own_stJ X42 hx hZ e42 A42 (k := 0) (by decide) (by decide) (by decide) (pc' := 145) rfl (hb hby at_144) ?_
        intro T44 h44 X44 e44 W44 A44
        have S45 := own_sizWr W44 S43
        have N44 := Fr.snoc X44 M8 ge42
        refine own_dup X44 hx (pc' := 146) rfl (hb hby at_145) rfl ?_
        refine own_iconst X44 hx (v := (1 : Int32)) (pc' := 147) rfl (hb hby at_146) rfl ?_
        refine own_lload X44 hx (pc' := 149) rfl (hb hby at_147) rfl ?_
        refine own_stJ X44 hx hZ e44 A44 (k := 1) (by decide) (by decide) (by decide) (pc' := 150) rfl (hb hby at_149) ?_
        intro T47 h47 X47 e47 W47 A47
        have S48 := own_sizWr W47 S45
        have N47 := Fr.snoc X47 N44 ge42
        refine own_dup X47 hx (pc' := 151) rfl (hb hby at_150) rfl ?_
        refine own_iconst X47 hx (v := (2 : Int32)) (pc' := 152) rfl (hb hby at_151) rfl ?_
        refine own_lload X47 hx (pc' := 154) rfl (hb hby at_152) rfl ?_
        refine own_stJ X47 hx hZ e47 A47 (k := 2) (by decide) (by decide) (by decide) (pc' := 155) rfl (hb hby at_154) ?_
        intro T50 h50 X50 e50 W50 A50
        have S51 := own_sizWr W50 S48
        have N50 := Fr.snoc X50 N47 ge42
        refine own_astore X50 hx (Ls' := #[.val (.int p1), .val (.long q2), .second, .val (.long q3), .second, .val (.long q4), .second, .val (.int (3 : Int32)), .val (.long lo), .second, .val (.long hi), .second, .val (.long mid), .second, .val (.ref o42), .unset, .unset]) (pc' := 157) rfl (hb hby at_155) rfl rfl ?_
        refine own_aload X50 hx (pc' := 159) rfl (hb hby at_157) rfl rfl ?_
        refine own_callS X50 hx hZ (y := (⟨"com/example/shingl/shingl/Fingerprint", "stored", "([J)Lcom/example/shingl/shingl/Fingerprint;"⟩ : MethodName)) hown (hw _ (List.mem_of_getElem? (i := 8) rfl)) (hw _ (List.mem_of_getElem? (i := 9) rfl)) (hw _ (List.mem_of_getElem? (i := 10) rfl)) (hw _ (List.mem_of_getElem? (i := 11) rfl))  (by decide) (rm_st3 l Z a0 hw [] (own_upd (own_upd (own_upd (fun _ => (.long (0 : Int64))) 0 (.long lo)) 1 (.long mid)) 2 (.long hi)) lo mid hi o42 h50 n0 S51 A50 rfl rfl rfl (own_lt ho.1 c60_40) (own_lt ho.2 c76_41)) (by decide) (W := 0) (by decide) (by decide) (by decide) e50 (by rw [hml]; rfl) (argsL := [(.ref o42)]) (rest := []) rfl (lenOf pd___J_Lcom_example_shingl_shingl_Fingerprint_ rfl) rfl (Nat.le_of_eq rfl) (pc' := 162) rfl (hb hby at_159) ?_
        rintro _ T53 L53 X53 ⟨r53, rfl, N53, K53, A53, F53, g53⟩
        have M53 := Fr.app N50 N53
        obtain ⟨h53, e53⟩ : ∃ z, T53.heap = z := ⟨_, rfl⟩
        rw [e53] at K53 A53 F53
        have S54 := Nat.le_trans S51 K53.1
        have A55 := own_Arr.keep K53 A50 nin0
        show own_Goes p e below T53 (mkF m 162 #[.val (.int p1), .val (.long q2), .second, .val (.long q3), .second, .val (.long q4), .second, .val (.int (3 : Int32)), .val (.long lo), .second, .val (.long hi), .second, .val (.long mid), .second, .val (.ref o42), .unset, .unset] [(.ref r53)]) (own_Ret s (K_rm_law  Z h0 n0 p1 q2 q3 q4) room_1.cells room_1.slots)
        refine own_astore X53 hx (Ls' := #[.val (.int p1), .val (.long q2), .second, .val (.long q3), .second, .val (.long q4), .second, .val (.int (3 : Int32)), .val (.long lo), .second, .val (.long hi), .second, .val (.long mid), .second, .val (.ref o42), .val (.ref r53), .unset]) (pc' := 164) rfl (hb hby at_162) rfl rfl ?_
        refine own_aload X53 hx (pc' := 166) rfl (hb hby at_164) rfl rfl ?_
        refine own_callV X53 hx hZ (y := (⟨"com/example/shingl/shingl/Fingerprint", "size", "()I"⟩ : MethodName)) hown (hw _ (List.mem_of_getElem? (i := 22) rfl)) (hw _ (List.mem_of_getElem? (i := 23) rfl)) (hw _ (List.mem_of_getElem? (i := 25) rfl)) (hw _ (List.mem_of_getElem? (i := 24) rfl)) (hw _ (List.mem_of_getElem? (i := 10) rfl)) (hw _ (List.mem_of_getElem? (i := 26) rfl)) A53  (by decide) (rm_size l Z a0 hw [] o42 3 (own_upd (own_upd (own_upd (fun _ => (.long (0 : Int64))) 0 (.long lo)) 1 (.long mid)) 2 (.long hi)) (3 : Int32) r53 h53 n0 S54 A53 F53 A55 (by decide)) (by decide) (W := 0) (by decide) (by decide) (by decide) e53 (by rw [hml]; rfl) (argsL := []) (rest := []) rfl (lenOf pd___I rfl) rfl (Nat.le_of_eq rfl) (pc' := 169) rfl (hb hby at_166) ?_
        rintro _ T56 L56 X56 ⟨rfl, N56, e56⟩
        have M56 := Fr.app M53 N56
        show own_Goes p e below T56 (mkF m 169 #[.val (.int p1), .val (.long q2), .second, .val (.long q3), .second, .val (.long q4), .second, .val (.int (3 : Int32)), .val (.long lo), .second, .val (.long hi), .second, .val (.long mid), .second, .val (.ref o42), .val (.ref r53), .unset] [(.int (3 : Int32))]) (own_Ret s (K_rm_law  Z h0 n0 p1 q2 q3 q4) room_1.cells room_1.slots)
        refine own_iload X56 hx (pc' := 171) rfl (hb hby at_169) rfl ?_
        refine own_icmpT X56 hx (pc' := 176) (hb hby at_171) (XT.ii_eq_t (by decide)) (by decide) (by decide) ?_
        refine own_iconst X56 hx (v := (1 : Int32)) (pc' := 177) rfl (hb hby at_176) rfl ?_
        refine own_istore X56 hx (Ls' := #[.val (.int p1), .val (.long q2), .second, .val (.long q3), .second, .val (.long q4), .second, .val (.int (3 : Int32)), .val (.long lo), .second, .val (.long hi), .second, .val (.long mid), .second, .val (.ref o42), .val (.ref r53), .val (.int (1 : Int32))]) (pc' := 179) rfl (hb hby at_177) rfl ?_
        refine own_iload X56 hx (pc' := 181) rfl (hb hby at_179) rfl ?_
        refine own_iconst X56 hx (v := (1 : Int32)) (pc' := 182) rfl (hb hby at_181) rfl ?_
        refine own_icmpF X56 hx (pc' := 185) rfl (hb hby at_182) (XT.ii_lt_f (by decide)) ?_
        refine own_iload X56 hx (pc' := 187) rfl (hb hby at_185) rfl ?_
        refine own_ifF X56 hx (pc' := 190) rfl (hb hby at_187) (XT.i0_eq_f (by decide)) ?_
        refine own_aload X56 hx (pc' := 192) rfl (hb hby at_190) rfl rfl ?_
        refine own_iconst X56 hx (v := (0 : Int32)) (pc' := 193) rfl (hb hby at_192) rfl ?_
        refine own_callV X56 hx hZ (y := (⟨"com/example/shingl/shingl/Fingerprint", "minutia", "(I)J"⟩ : MethodName)) hown (hw _ (List.mem_of_getElem? (i := 27) rfl)) (hw _ (List.mem_of_getElem? (i := 28) rfl)) (hw _ (List.mem_of_getElem? (i := 30) rfl)) (hw _ (List.mem_of_getElem? (i := 29) rfl)) (hw _ (List.mem_of_getElem? (i := 10) rfl)) (hw _ (List.mem_of_getElem? (i := 31) rfl)) A53  (by decide) (rm_mnt l Z a0 hw [] o42 3 (own_upd (own_upd (own_upd (fun _ => (.long (0 : Int64))) 0 (.long lo)) 1 (.long mid)) 2 (.long hi)) 0 lo r53 (0 : Int32) h53 n0 S54 A53 F53 A55 (by decide) (by decide) (by decide) rfl) (by decide) (W := 0) (by decide) (by decide) (by decide) e56 (by rw [hml]; rfl) (argsL := [(.int (0 : Int32))]) (rest := []) rfl (lenOf pd__I_J rfl) rfl (Nat.le_of_eq rfl) (pc' := 196) rfl (hb hby at_193) ?_
        rintro _ T57 L57 X57 ⟨rfl, N57, e57⟩
        have M57 := Fr.app M56 N57
        show own_Goes p e below T57 (mkF m 196 #[.val (.int p1), .val (.long q2), .second, .val (.long q3), .second, .val (.long q4), .second, .val (.int (3 : Int32)), .val (.long lo), .second, .val (.long hi), .second, .val (.long mid), .second, .val (.ref o42), .val (.ref r53), .val (.int (1 : Int32))] [(.long lo)]) (own_Ret s (K_rm_law  Z h0 n0 p1 q2 q3 q4) room_1.cells room_1.slots)
        refine own_lload X57 hx (pc' := 198) rfl (hb hby at_196) rfl ?_
        refine own_lcmp X57 hx (pc' := 199) rfl (hb hby at_198) ?_
        refine own_ifF X57 hx (pc' := 202) rfl (hb hby at_199) (XT.ll_ne_f rfl) ?_
        refine own_iconst X57 hx (v := (1 : Int32)) (pc' := 203) rfl (hb hby at_202) rfl ?_
        refine own_goto X57 hx (pc' := 207) (hb hby at_203) (by decide) (by decide) ?_
        refine own_istore X57 hx (Ls' := #[.val (.int p1), .val (.long q2), .second, .val (.long q3), .second, .val (.long q4), .second, .val (.int (3 : Int32)), .val (.long lo), .second, .val (.long hi), .second, .val (.long mid), .second, .val (.ref o42), .val (.ref r53), .val (.int (1 : Int32))]) (pc' := 209) rfl (hb hby at_207) rfl ?_
        refine own_iload X57 hx (pc' := 211) rfl (hb hby at_209) rfl ?_
        refine own_iconst X57 hx (v := (2 : Int32)) (pc' := 212) rfl (hb hby at_211) rfl ?_
        refine own_icmpF X57 hx (pc' := 215) rfl (hb hby at_212) (XT.ii_lt_f (by decide)) ?_
        refine own_iload X57 hx (pc' := 217) rfl (hb hby at_215) rfl ?_
        refine own_ifF X57 hx (pc' := 220) rfl (hb hby at_217) (XT.i0_eq_f (by decide)) ?_
        refine own_aload X57 hx (pc' := 222) rfl (hb hby at_220) rfl rfl ?_
        refine own_iconst X57 hx (v := (1 : Int32)) (pc' := 223) rfl (hb hby at_222) rfl ?_
        refine own_callV X57 hx hZ (y := (⟨"com/example/shingl/shingl/Fingerprint", "minutia", "(I)J"⟩ : MethodName)) hown (hw _ (List.mem_of_getElem? (i := 27) rfl)) (hw _ (List.mem_of_getElem? (i := 28) rfl)) (hw _ (List.mem_of_getElem? (i := 30) rfl)) (hw _ (List.mem_of_getElem? (i := 29) rfl)) (hw _ (List.mem_of_getElem? (i := 10) rfl)) (hw _ (List.mem_of_getElem? (i := 31) rfl)) A53  (by decide) (rm_mnt l Z a0 hw [] o42 3 (own_upd (own_upd (own_upd (fun _ => (.long (0 : Int64))) 0 (.long lo)) 1 (.long mid)) 2 (.long hi)) 1 mid r53 (1 : Int32) h53 n0 S54 A53 F53 A55 (by decide) (by decide) (by decide) rfl) (by decide) (W := 0) (by decide) (by decide) (by decide) e57 (by rw [hml]; rfl) (argsL := [(.int (1 : Int32))]) (rest := []) rfl (lenOf pd__I_J rfl) rfl (Nat.le_of_eq rfl) (pc' := 226) rfl (hb hby at_223) ?_
        rintro _ T58 L58 X58 ⟨rfl, N58, e58⟩
        have M58 := Fr.app M57 N58
        show own_Goes p e below T58 (mkF m 226 #[.val (.int p1), .val (.long q2), .second, .val (.long q3), .second, .val (.long q4), .second, .val (.int (3 : Int32)), .val (.long lo), .second, .val (.long hi), .second, .val (.long mid), .second, .val (.ref o42), .val (.ref r53), .val (.int (1 : Int32))] [(.long mid)]) (own_Ret s (K_rm_law  Z h0 n0 p1 q2 q3 q4) room_1.cells room_1.slots)
        refine own_lload X58 hx (pc' := 228) rfl (hb hby at_226) rfl ?_
        refine own_lcmp X58 hx (pc' := 229) rfl (hb hby at_228) ?_
        refine own_ifF X58 hx (pc' := 232) rfl (hb hby at_229) (XT.ll_ne_f rfl) ?_
        refine own_iconst X58 hx (v := (1 : Int32)) (pc' := 233) rfl (hb hby at_232) rfl ?_
        refine own_goto X58 hx (pc' := 237) (hb hby at_233) (by decide) (by decide) ?_
        refine own_istore X58 hx (Ls' := #[.val (.int p1), .val (.long q2), .second, .val (.long q3), .second, .val (.long q4), .second, .val (.int (3 : Int32)), .val (.long lo), .second, .val (.long hi), .second, .val (.long mid), .second, .val (.ref o42), .val (.ref r53), .val (.int (1 : Int32))]) (pc' := 239) rfl (hb hby at_237) rfl ?_
        refine own_iload X58 hx (pc' := 241) rfl (hb hby at_239) rfl ?_
        refine own_iconst X58 hx (v := (3 : Int32)) (pc' := 242) rfl (hb hby at_241) rfl ?_
        refine own_icmpF X58 hx (pc' := 245) rfl (hb hby at_242) (XT.ii_ne_f (by decide)) ?_
        refine own_iload X58 hx (pc' := 247) rfl (hb hby at_245) rfl ?_
        refine own_ifF X58 hx (pc' := 250) rfl (hb hby at_247) (XT.i0_eq_f (by decide)) ?_
        refine own_aload X58 hx (pc' := 252) rfl (hb hby at_250) rfl rfl ?_
        refine own_iconst X58 hx (v := (2 : Int32)) (pc' := 253) rfl (hb hby at_252) rfl ?_
        refine own_callV X58 hx hZ (y := (⟨"com/example/shingl/shingl/Fingerprint", "minutia", "(I)J"⟩ : MethodName)) hown (hw _ (List.mem_of_getElem? (i := 27) rfl)) (hw _ (List.mem_of_getElem? (i := 28) rfl)) (hw _ (List.mem_of_getElem? (i := 30) rfl)) (hw _ (List.mem_of_getElem? (i := 29) rfl)) (hw _ (List.mem_of_getElem? (i := 10) rfl)) (hw _ (List.mem_of_getElem? (i := 31) rfl)) A53  (by decide) (rm_mnt l Z a0 hw [] o42 3 (own_upd (own_upd (own_upd (fun _ => (.long (0 : Int64))) 0 (.long lo)) 1 (.long mid)) 2 (.long hi)) 2 hi r53 (2 : Int32) h53 n0 S54 A53 F53 A55 (by decide) (by decide) (by decide) rfl) (by decide) (W := 0) (by decide) (by decide) (by decide) e58 (by rw [hml]; rfl) (argsL := [(.int (2 : Int32))]) (rest := []) rfl (lenOf pd__I_J rfl) rfl (Nat.le_of_eq rfl) (pc' := 256) rfl (hb hby at_253) ?_
        rintro _ T59 L59 X59 ⟨rfl, N59, e59⟩
        have M59 := Fr.app M58 N59
        show own_Goes p e below T59 (mkF m 256 #[.val (.int p1), .val (.long q2), .second, .val (.long q3), .second, .val (.long q4), .second, .val (.int (3 : Int32)), .val (.long lo), .second, .val (.long hi), .second, .val (.long mid), .second, .val (.ref o42), .val (.ref r53), .val (.int (1 : Int32))] [(.long hi)]) (own_Ret s (K_rm_law  Z h0 n0 p1 q2 q3 q4) room_1.cells room_1.slots)
        refine own_lload X59 hx (pc' := 258) rfl (hb hby at_256) rfl ?_
        refine own_lcmp X59 hx (pc' := 259) rfl (hb hby at_258) ?_
        refine own_ifF X59 hx (pc' := 262) rfl (hb hby at_259) (XT.ll_ne_f rfl) ?_
        refine own_iconst X59 hx (v := (1 : Int32)) (pc' := 263) rfl (hb hby at_262) rfl ?_
        refine own_goto X59 hx (pc' := 267) (hb hby at_263) (by decide) (by decide) ?_
        refine own_istore X59 hx (Ls' := #[.val (.int p1), .val (.long q2), .second, .val (.long q3), .second, .val (.long q4), .second, .val (.int (3 : Int32)), .val (.long lo), .second, .val (.long hi), .second, .val (.long mid), .second, .val (.ref o42), .val (.ref r53), .val (.int (1 : Int32))]) (pc' := 269) rfl (hb hby at_267) rfl ?_
        refine own_iload X59 hx (pc' := 271) rfl (hb hby at_269) rfl ?_
        refine own_zret X59 hx hlk hret (by simp) (hb hby at_271) (by decide) (by decide) ?_
        rw [e59]
        exact ⟨rfl, M59⟩
set_option maxRecDepth 65536 in
set_option maxHeartbeats 40000000 in
theorem comes_1 {Post : Tables → Env → Array Value → State → Outcome → State → Prop} (hpost : ∀ tb e args s v u, (limb_1_1.after args s (.returned v) u = true ∧ limb_1_2.after args s (.returned v) u = true ∧ True) → FrameEnd s (.returned v) u (Jvm.fieldLocs frame_1_writes args s ++ Jvm.arrayLocs frame_1_arrays args s ++ Jvm.staticLocs frame_1_statics s) 16 128 → Post tb e args s (.returned v) u) :
    ArmFor flags0 classFile x code maxLocals ret World_1 tables_1 room_1 Calls_1 rest_1 Pre_1 Post := by
  intro l hfl _ _ p e ha hc hk s m args below hf hA hF happ hP
  obtain ⟨hcalls, hrest, hpre⟩ := hP
  obtain ⟨-, -, -, hnamed, -, -, -, hat⟩ := (Spec.applies_iff hf).mp happ
  obtain ⟨hg, hn⟩ := and_e (Cond.before_iff.mp (show (Jvm.Cond.and given_1 narrow_1).before args s = true from hpre))
  obtain ⟨h1, hg1⟩ := and_e hg
  obtain ⟨w0, w1, w2, w3, rfl⟩ : ∃ w0 w1 w2 w3 : Value, args = #[w0, w1, w2, w3] := by
    have hs : args.size = 4 := by simpa [Cond.value, given_1] using h1
    obtain ⟨L⟩ := args
    match L, hs with
    | [w0, w1, w2, w3], _ => exact ⟨w0, w1, w2, w3, rfl⟩
  have hw := fun d (hd : d ∈ tables_1) => atoms_spec (ws := Jvm.Cond.code x code maxLocals ret :: tables_1) hat d (List.mem_cons_of_mem _ hd)
  have hfit : Fit s := fun {y c} hc i hi => by
    obtain ⟨ha, rfl⟩ := Array.getElem?_eq_some_iff.mp hc
    have q := List.all_eq_true.mp ((Array.all_eq_true_iff_forall_mem.mp hF) _ (Array.getElem_mem ha)) i (List.mem_range.mpr hi)
    simpa [Array.getElem?_eq_getElem hi] using q
  obtain ⟨q0, hg2⟩ := and_e hg1
  obtain ⟨i0, ee0⟩ := is_v q0
  obtain rfl : w0 = (.int i0) := Option.some.inj ee0
  obtain ⟨q1, hg3⟩ := and_e hg2
  obtain ⟨i1, ee1⟩ := isL_v q1
  obtain rfl : w1 = (.long i1) := Option.some.inj ee1
  obtain ⟨q2, hg4⟩ := and_e hg3
  obtain ⟨i2, ee2⟩ := isL_v q2
  obtain rfl : w2 = (.long i2) := Option.some.inj ee2
  obtain ⟨i3, ee3⟩ := isL_v hg4
  obtain rfl : w3 = (.long i3) := Option.some.inj ee3
  obtain ⟨n, o, h1, h2, h3, _, L, rfl, ⟨rfl, N⟩, hq⟩ := rm_law l s _ hw tables_1  i0 i1 i2 i3 s.heap s.heap.size (Nat.le_refl _) p e ha hc hk s m _ below hf ((Spec.applies_iff_loose hf).mp happ).1 ⟨rfl, State.Warmed39.refl s, rfl⟩ trivial
  refine ⟨n, _, h1, h2, h3, hpost _ _ _ _ _ _ ⟨Cond.after_iff.mpr rfl, Cond.after_iff.mpr (eq_i res_at (Term.int_eval (1)) rfl), trivial⟩ ⟨hq.1, hq.2.1, (hq.2.2.sift fun y hy => Or.inr (N y hy)).mono (by decide) (by decide)⟩⟩
theorem main_1_1 : Claimed_1_1 := comes_1 fun _ _ _ _ _ _ h hF => ⟨h.1, hF⟩
theorem main_1_2 : Claimed_1_2 := comes_1 fun _ _ _ _ _ _ h hF => ⟨h.2.1, hF⟩
end Jvm.Pilot.@@N@@
namespace Jvm.Pilot.@@N@@
open Jvm Jvm.ClassFile Sem Op Lib Jvm.Free Jvm.Stand Jvm.Pilot.@@N@@.Jvm.D
/-! MADE BY PROGRAM (witnessworld.py) out of the Statement's table words and the real class files: 12 classes; the members and pool entries that the words name. The judged class is class 1, her method 1. -/
namespace start1
open Jvm.ClassFile
def u (s : String) : CpInfo := .utf8 (stringToUtf16 s)
/-- a pool by its gaps: so many unusable entries, then the entry; so many at the end -/
def gap : Nat → List CpInfo → List CpInfo
  | 0, r => r
  | n + 1, r => .unusable :: gap n r
def poolList (es : List (Nat × CpInfo)) (last : Nat) : List CpInfo := es.foldr (fun e r => gap e.1 (e.2 :: r)) (gap last [])
def pool (es : List (Nat × CpInfo)) (last : Nat) : Array CpInfo := ⟨poolList es last⟩
def fileOf (pool : Array CpInfo) (this : Nat) (attrs : Array Attribute := #[]) (ms : Array MethodInfo := #[]) (fl : Nat := 33) (sup : Nat := 0) (ifs : Array Nat := #[]) (fds : Array FieldInfo := #[]) : ClassFile where
  minorVersion := 0
  majorVersion := 65
  constantPool := pool
  accessFlags := fl
  thisClass := this
  superClass := sup
  interfaces := ifs
  fields := fds
  methods := ms
  attributes := attrs
def plain (name : String) (sup : Option ClassId) : Class where
  name := name
  kind := .ordinary
  loader := none
  accessFlags := 33
  super := sup
  interfaces := #[]
  cf := none
  fields := #[]
  methods := #[]
  instanceTypes := #[]
  staticTypes := #[]
  resolved := #[]
  callSites := []
  init := .initialized
  statics := none
  mirror := none

def pool0 : Array CpInfo := pool [(5, u "<init>"), (0, u "()V"), (1, .class_ 10), (1, u "java/lang/Object")] 113

def k0c0 : Code := { maxStack := 0, maxLocals := 1, code := object_method_1_code, exceptionTable := #[], attributes := #[] }
def k0m0 : Method := { name := "<init>", desc := "()V", sig := { parameters := [], returnType := none }, accessFlags := 1, code := some k0c0 }
/-- java/lang/Object -/
def k0 : Class := { plain "java/lang/Object" none with
  accessFlags := 33
  interfaces := #[]
  cf := some (fileOf pool0 8 #[] #[{ accessFlags := 1, nameIndex := 5, descriptorIndex := 6, attributes := #[] }] 33 0 #[] #[])
  fields := #[]
  methods := #[k0m0]
  instanceTypes := #[]
  staticTypes := #[]
  resolved := Array.replicate 124 none
  statics := none }

def pool1 : Array CpInfo := pool [(2, .class_ 4), (1, u "java/lang/Object"), (0, u "<init>"), (0, u "()V"), (0, .methodref 8 9), (0, .class_ 10), (0, .nameAndType 11 12), (0, u "java/lang/Math"), (0, u "min"), (0, u "(JJ)J"), (0, .methodref 8 14), (0, .nameAndType 15 12), (0, u "max"), (0, .methodref 17 18), (0, .class_ 19), (0, .nameAndType 20 21), (0, u "com/example/shingl/shingl/Fingerprint"), (0, u "stored"), (0, u "([J)Lcom/example/shingl/shingl/Fingerprint;"), (0, .methodref 17 23), (0, .nameAndType 24 25), (0, u "size"), (0, u "()I"), (0, .methodref 17 27), (0, .nameAndType 28 29), (0, u "minutia"), (0, u "(I)J"), (0, .class_ 31), (0, u "com/example/shingl/shingl/FingerprintStoredPinLaw"), (2, u "law"), (0, u "(IJJJ)Z")] 5

def k1m0 : Method := { name := "<init>", desc := "()V", sig := { parameters := [], returnType := none }, accessFlags := 1, code := none }
def k1c1 : Code := { maxStack := 6, maxLocals := 17, code := code, exceptionTable := #[], attributes := #[] }
def k1m1 : Method := { name := "law", desc := "(IJJJ)Z", sig := { parameters := [.int, .long, .long, .long], returnType := some .boolean }, accessFlags := 9, code := some k1c1 }
/-- com/example/shingl/shingl/FingerprintStoredPinLaw -/
def k1 : Class := { plain "com/example/shingl/shingl/FingerprintStoredPinLaw" (some 0) with
  accessFlags := 49
  interfaces := #[]
  cf := some (fileOf pool1 30 #[] #[{ accessFlags := 1, nameIndex := 5, descriptorIndex := 6, attributes := #[] }, { accessFlags := 9, nameIndex := 34, descriptorIndex := 35, attributes := #[] }] 49 2 #[] #[])
  fields := #[]
  methods := #[k1m0, k1m1]
  instanceTypes := #[]
  staticTypes := #[]
  resolved := Array.replicate 41 none
  statics := none }

def pool2 : Array CpInfo := pool [(1, .class_ 2), (0, u "java/lang/Math"), (1, .class_ 6), (1, u "java/lang/Object"), (0, u "<init>"), (0, u "()V"), (89, .class_ 100), (1, u "java/lang/Math$RandomNumberGeneratorHolder"), (20, u "(JJ)J"), (50, u "negativeZeroFloatBits"), (0, u "J"), (2, u "negativeZeroDoubleBits"), (21, u "max"), (2, u "min"), (43, u "$assertionsDisabled"), (0, u "Z"), (91, u "twoToTheDoubleScaleDown"), (0, u "D"), (4, u "twoToTheDoubleScaleUp"), (9, u "E"), (3, u "PI"), (2, u "TAU"), (2, u "DEGREES_TO_RADIANS"), (0, u "RADIANS_TO_DEGREES")] 94

def k2m0 : Method := { name := "<init>", desc := "()V", sig := { parameters := [], returnType := none }, accessFlags := 2, code := none }
def k2c1 : Code := { maxStack := 4, maxLocals := 4, code := jdk_29_method_66_code, exceptionTable := #[], attributes := #[] }
def k2m1 : Method := { name := "max", desc := "(JJ)J", sig := { parameters := [.long, .long], returnType := some .long }, accessFlags := 9, code := some k2c1 }
def k2c2 : Code := { maxStack := 4, maxLocals := 4, code := jdk_29_method_70_code, exceptionTable := #[], attributes := #[] }
def k2m2 : Method := { name := "min", desc := "(JJ)J", sig := { parameters := [.long, .long], returnType := some .long }, accessFlags := 9, code := some k2c2 }
/-- java/lang/Math -/
def k2 : Class := { plain "java/lang/Math" (some 0) with
  accessFlags := 49
  interfaces := #[]
  cf := some (fileOf pool2 1 #[.nestMembers #[98]] #[{ accessFlags := 2, nameIndex := 7, descriptorIndex := 8, attributes := #[] }, { accessFlags := 9, nameIndex := 198, descriptorIndex := 121, attributes := #[] }, { accessFlags := 9, nameIndex := 201, descriptorIndex := 121, attributes := #[] }] 49 4 #[] #[{ accessFlags := 25, nameIndex := 354, descriptorIndex := 339, attributes := #[] }, { accessFlags := 25, nameIndex := 358, descriptorIndex := 339, attributes := #[] }, { accessFlags := 25, nameIndex := 361, descriptorIndex := 339, attributes := #[] }, { accessFlags := 26, nameIndex := 364, descriptorIndex := 339, attributes := #[] }, { accessFlags := 26, nameIndex := 365, descriptorIndex := 339, attributes := #[] }, { accessFlags := 26, nameIndex := 172, descriptorIndex := 173, attributes := #[] }, { accessFlags := 26, nameIndex := 176, descriptorIndex := 173, attributes := #[] }, { accessFlags := 8, nameIndex := 344, descriptorIndex := 339, attributes := #[] }, { accessFlags := 8, nameIndex := 338, descriptorIndex := 339, attributes := #[] }, { accessFlags := 4120, nameIndex := 245, descriptorIndex := 246, attributes := #[] }])
  fields := #[{ name := "E", type := .double, accessFlags := 25, slot := 0, constantValue := 0 }, { name := "PI", type := .double, accessFlags := 25, slot := 1, constantValue := 0 }, { name := "TAU", type := .double, accessFlags := 25, slot := 2, constantValue := 0 }, { name := "DEGREES_TO_RADIANS", type := .double, accessFlags := 26, slot := 3, constantValue := 0 }, { name := "RADIANS_TO_DEGREES", type := .double, accessFlags := 26, slot := 4, constantValue := 0 }, { name := "negativeZeroFloatBits", type := .long, accessFlags := 26, slot := 5, constantValue := 0 }, { name := "negativeZeroDoubleBits", type := .long, accessFlags := 26, slot := 6, constantValue := 0 }, { name := "twoToTheDoubleScaleUp", type := .double, accessFlags := 8, slot := 7, constantValue := 0 }, { name := "twoToTheDoubleScaleDown", type := .double, accessFlags := 8, slot := 8, constantValue := 0 }, { name := "$assertionsDisabled", type := .boolean, accessFlags := 4120, slot := 9, constantValue := 0 }]
  methods := #[k2m0, k2m1, k2m2]
  instanceTypes := #[]
  staticTypes := #[.double, .double, .double, .double, .double, .long, .long, .double, .double, .boolean]
  resolved := Array.replicate 460 none
  statics := none }

def pool3 : Array CpInfo := pool [(1, .methodref 2 3), (0, .class_ 4), (0, .nameAndType 5 6), (0, u "java/lang/Object"), (0, u "<init>"), (0, u "()V"), (0, .fieldref 8 9), (0, .class_ 10), (0, .nameAndType 11 12), (0, u "com/example/shingl/shingl/Fingerprint"), (0, u "minutiae"), (0, u "[J"), (10, u "([J)V"), (4, .methodref 8 29), (0, .nameAndType 5 23), (27, u "()I"), (27, u "([J)Lcom/example/shingl/shingl/Fingerprint;"), (1, u "stored"), (0, u "size"), (0, u "minutia"), (0, u "(I)J")] 9

def k3c0 : Code := { maxStack := 2, maxLocals := 2, code := prog_9_method_1_code, exceptionTable := #[], attributes := #[] }
def k3m0 : Method := { name := "<init>", desc := "([J)V", sig := { parameters := [(.array .long)], returnType := none }, accessFlags := 2, code := some k3c0 }
def k3c1 : Code := { maxStack := 4, maxLocals := 2, code := prog_9_method_3_code, exceptionTable := #[], attributes := #[] }
def k3m1 : Method := { name := "stored", desc := "([J)Lcom/example/shingl/shingl/Fingerprint;", sig := { parameters := [(.array .long)], returnType := some (.object "com/example/shingl/shingl/Fingerprint") }, accessFlags := 8, code := some k3c1 }
def k3c2 : Code := { maxStack := 1, maxLocals := 1, code := prog_9_method_4_code, exceptionTable := #[], attributes := #[] }
def k3m2 : Method := { name := "size", desc := "()I", sig := { parameters := [], returnType := some .int }, accessFlags := 1, code := some k3c2 }
def k3c3 : Code := { maxStack := 2, maxLocals := 2, code := prog_9_method_5_code, exceptionTable := #[], attributes := #[] }
def k3m3 : Method := { name := "minutia", desc := "(I)J", sig := { parameters := [.int], returnType := some .long }, accessFlags := 1, code := some k3c3 }
/-- com/example/shingl/shingl/Fingerprint -/
def k3 : Class := { plain "com/example/shingl/shingl/Fingerprint" (some 0) with
  accessFlags := 33
  interfaces := #[]
  cf := some (fileOf pool3 8 #[] #[{ accessFlags := 2, nameIndex := 5, descriptorIndex := 23, attributes := #[] }, { accessFlags := 8, nameIndex := 87, descriptorIndex := 85, attributes := #[] }, { accessFlags := 1, nameIndex := 88, descriptorIndex := 57, attributes := #[] }, { accessFlags := 1, nameIndex := 89, descriptorIndex := 90, attributes := #[] }] 33 2 #[] #[{ accessFlags := 18, nameIndex := 11, descriptorIndex := 12, attributes := #[] }])
  fields := #[{ name := "minutiae", type := (.array .long), accessFlags := 18, slot := 0, constantValue := 0 }]
  methods := #[k3m0, k3m1, k3m2, k3m3]
  instanceTypes := #[(.array .long)]
  staticTypes := #[]
  resolved := Array.replicate 100 none
  statics := none }

def pool4 : Array CpInfo := pool [(1, u "java/lang/Cloneable"), (0, .class_ 1), (0, u "java/lang/Object"), (0, .class_ 3)] 3

/-- java/lang/Cloneable -/
def k4 : Class := { plain "java/lang/Cloneable" (some 0) with
  accessFlags := 1537
  interfaces := #[]
  cf := some (fileOf pool4 2 #[] #[] 1537 4 #[] #[])
  fields := #[]
  methods := #[]
  instanceTypes := #[]
  staticTypes := #[]
  resolved := Array.replicate 8 none
  statics := none }

def pool5 : Array CpInfo := pool [(1, u "java/io/Serializable"), (0, .class_ 1), (0, u "java/lang/Object"), (0, .class_ 3)] 3

/-- java/io/Serializable -/
def k5 : Class := { plain "java/io/Serializable" (some 0) with
  accessFlags := 1537
  interfaces := #[]
  cf := some (fileOf pool5 2 #[] #[] 1537 4 #[] #[])
  fields := #[]
  methods := #[]
  instanceTypes := #[]
  staticTypes := #[]
  resolved := Array.replicate 8 none
  statics := none }

/-- the primitive byte -/
def k6 : Class := { plain "byte" none with kind := .primitive 'B', accessFlags := 0x411 }
/-- [B -/
def k7 : Class := { plain "[B" (some 0) with kind := .array 6 .byte, interfaces := #[4, 5], accessFlags := 1041 }

/-- the primitive int -/
def k8 : Class := { plain "int" none with kind := .primitive 'I', accessFlags := 0x411 }
/-- [I -/
def k9 : Class := { plain "[I" (some 0) with kind := .array 8 .int, interfaces := #[4, 5], accessFlags := 1041 }

/-- the primitive long -/
def k10 : Class := { plain "long" none with kind := .primitive 'J', accessFlags := 0x411 }
/-- [J -/
def k11 : Class := { plain "[J" (some 0) with kind := .array 10 .long, interfaces := #[4, 5], accessFlags := 1041 }

def heap : Heap := #[]
def classes : Array Class := #[k0, k1, k2, k3, k4, k5, k6, k7, k8, k9, k10, k11]
def interned : List (Array UInt16 × Addr) := []
def slotsUsed : Nat := 0
def theMethod : MethodId := ⟨1, 1⟩
def args0 : Array Value := #[.int 3, .long 7, .long 9, .long 11]
def aboutOver (below : List Frame) : State where
  vm := { classes := classes, interned := interned.toArray }
  heap := heap
  slotsUsed := slotsUsed
  threads := #[{ frames := .invoking theMethod args0 :: below }]
def below0 : List Frame := [.native { method := ⟨0, 0⟩, args := #[] }]
def about1 : State := aboutOver below0
def p0 : Program := .bare "" "" ""
def e0 : Env := launch0.env 0 0 0
theorem w_frames : about1.frames = Frame.invoking theMethod args0 :: below0 := rfl
set_option maxRecDepth 65536 in
theorem w_args : argsFit about1.vm theMethod args0 = true := by decide +kernel
set_option maxRecDepth 65536 in
theorem w_heap : heapFits about1 = true := by decide +kernel
set_option maxRecDepth 65536 in
theorem w_runnable : about1.curStatus? = some .runnable := by decide +kernel
set_option maxRecDepth 65536 in
theorem w_alone : about1.alone = true := by decide +kernel
set_option maxRecDepth 65536 in
theorem w_named : about1.methodNamed? x = some theMethod := by decide +kernel
set_option maxRecDepth 65536 in
theorem w_hears : about1.hears theMethod below0 = true := by decide +kernel
set_option maxRecDepth 65536 in
theorem w_ripe : about1.ripe theMethod args0 below0 = true := by decide +kernel
theorem w_running : about1.status = .running := rfl
set_option maxRecDepth 65536 in
theorem w_room : about1.hasRoom e0.platform room_1 = true :=
  launch0.hasRoom_least _ room_1 (by decide +kernel) (by decide +kernel) (by decide +kernel) (by decide +kernel) (by decide +kernel) (by decide +kernel)
theorem allAtoms_all (ts : List Jvm.Cond) (a : Array Jvm.Value) (st : Jvm.State) : (allAtoms ts).before a st = ts.all (fun c => c.before a st) := by
  induction ts with
  | nil => rfl
  | cons c t ih =>
    show (Jvm.Cond.and c (allAtoms t)).before a st = _
    rw [Jvm.Cond.before_and, ih, List.all_cons]
def words1 : List Jvm.Cond := Jvm.Cond.code x code maxLocals ret :: tables_1
/-- a 'code' word, met by the world's own term for the bytes: nothing is compared byte by byte -/
theorem code_word {y : MethodName} {bytes : ByteArray} {mx : Nat} {rt : Option FieldType} {a : Array Value} {s : State} {m : MethodId} {meth : Method} {c : Code} (h1 : s.methodNamed? y = some m) (h2 : s.vm.method? m = some meth) (h3 : meth.code = some c) (h4 : c.code = bytes)
    (h5 : (c.maxLocals == mx && c.exceptionTable.isEmpty && decide (c.maxStack ≤ mostOperands) && decide (meth.sig.returnType = rt) && !meth.locks && decide (parseMethodDescriptor y.desc = some meth.sig)) = true) : (Jvm.Cond.code y bytes mx rt).before a s = true := by
  simp only [Bool.and_eq_true, beq_iff_eq, Bool.not_eq_true', decide_eq_true_eq] at h5
  obtain ⟨⟨⟨⟨⟨g1, g2⟩, g3⟩, g4⟩, g5⟩, g6⟩ := h5
  simp [Cond.before, Cond.holds, Cond.value, h1, h2, h3, h4, g1, g2, g3, g4, g5, g6]
def isCode : Jvm.Cond → Bool
  | .code _ _ _ _ => true
  | _ => false
theorem all_split {L : List Jvm.Cond} {P : Jvm.Cond → Bool} (h1 : L.all (fun c => isCode c || P c) = true) (h2 : ∀ c ∈ L.filter isCode, P c = true) : L.all P = true := by
  refine List.all_eq_true.mpr fun c hc => ?_
  have h := List.all_eq_true.mp h1 c hc
  rcases Bool.eq_false_or_eq_true (isCode c) with hi | hi
  · exact h2 c (List.mem_filter.mpr ⟨hc, hi⟩)
  · simpa [hi] using h
set_option maxRecDepth 65536 in
theorem w_c0 : (Jvm.Cond.code x code maxLocals ret).before args0 about1 = true := code_word (m := ⟨1, 1⟩) (meth := k1m1) (c := k1c1) (by decide +kernel) rfl rfl rfl (by decide +kernel)
set_option maxRecDepth 65536 in
theorem w_c1 : (Jvm.Cond.code ({ cls := "java/lang/Math", name := "min", desc := "(JJ)J" } : Jvm.MethodName) jdk_29_method_70_code (4 : Nat) (Option.some Jvm.ClassFile.FieldType.long)).before args0 about1 = true := code_word (m := ⟨2, 2⟩) (meth := k2m2) (c := k2c2) (by decide +kernel) rfl rfl rfl (by decide +kernel)
set_option maxRecDepth 65536 in
theorem w_c2 : (Jvm.Cond.code ({ cls := "java/lang/Math", name := "max", desc := "(JJ)J" } : Jvm.MethodName) jdk_29_method_66_code (4 : Nat) (Option.some Jvm.ClassFile.FieldType.long)).before args0 about1 = true := code_word (m := ⟨2, 1⟩) (meth := k2m1) (c := k2c1) (by decide +kernel) rfl rfl rfl (by decide +kernel)
set_option maxRecDepth 65536 in
theorem w_c3 : (Jvm.Cond.code ({ cls := "com/example/shingl/shingl/Fingerprint", name := "stored", desc := "([J)Lcom/example/shingl/shingl/Fingerprint;" } : Jvm.MethodName) prog_9_method_3_code (2 : Nat) (Option.some (Jvm.ClassFile.FieldType.object "com/example/shingl/shingl/Fingerprint"))).before args0 about1 = true := code_word (m := ⟨3, 1⟩) (meth := k3m1) (c := k3c1) (by decide +kernel) rfl rfl rfl (by decide +kernel)
set_option maxRecDepth 65536 in
theorem w_c4 : (Jvm.Cond.code ({ cls := "com/example/shingl/shingl/Fingerprint", name := "<init>", desc := "([J)V" } : Jvm.MethodName) prog_9_method_1_code (2 : Nat) (Option.none : Option Jvm.ClassFile.FieldType)).before args0 about1 = true := code_word (m := ⟨3, 0⟩) (meth := k3m0) (c := k3c0) (by decide +kernel) rfl rfl rfl (by decide +kernel)
set_option maxRecDepth 65536 in
theorem w_c5 : (Jvm.Cond.code ({ cls := "java/lang/Object", name := "<init>", desc := "()V" } : Jvm.MethodName) object_method_1_code (1 : Nat) (Option.none : Option Jvm.ClassFile.FieldType)).before args0 about1 = true := code_word (m := ⟨0, 0⟩) (meth := k0m0) (c := k0c0) (by decide +kernel) rfl rfl rfl (by decide +kernel)
set_option maxRecDepth 65536 in
theorem w_c6 : (Jvm.Cond.code ({ cls := "com/example/shingl/shingl/Fingerprint", name := "size", desc := "()I" } : Jvm.MethodName) prog_9_method_4_code (1 : Nat) (Option.some Jvm.ClassFile.FieldType.int)).before args0 about1 = true := code_word (m := ⟨3, 2⟩) (meth := k3m2) (c := k3c2) (by decide +kernel) rfl rfl rfl (by decide +kernel)
set_option maxRecDepth 65536 in
theorem w_c7 : (Jvm.Cond.code ({ cls := "com/example/shingl/shingl/Fingerprint", name := "minutia", desc := "(I)J" } : Jvm.MethodName) prog_9_method_5_code (2 : Nat) (Option.some Jvm.ClassFile.FieldType.long)).before args0 about1 = true := code_word (m := ⟨3, 3⟩) (meth := k3m3) (c := k3c3) (by decide +kernel) rfl rfl rfl (by decide +kernel)
def codes1 : List Jvm.Cond := [Jvm.Cond.code x code maxLocals ret, Jvm.Cond.code ({ cls := "java/lang/Math", name := "min", desc := "(JJ)J" } : Jvm.MethodName) jdk_29_method_70_code (4 : Nat) (Option.some Jvm.ClassFile.FieldType.long), Jvm.Cond.code ({ cls := "java/lang/Math", name := "max", desc := "(JJ)J" } : Jvm.MethodName) jdk_29_method_66_code (4 : Nat) (Option.some Jvm.ClassFile.FieldType.long), Jvm.Cond.code ({ cls := "com/example/shingl/shingl/Fingerprint", name := "stored", desc := "([J)Lcom/example/shingl/shingl/Fingerprint;" } : Jvm.MethodName) prog_9_method_3_code (2 : Nat) (Option.some (Jvm.ClassFile.FieldType.object "com/example/shingl/shingl/Fingerprint")), Jvm.Cond.code ({ cls := "com/example/shingl/shingl/Fingerprint", name := "<init>", desc := "([J)V" } : Jvm.MethodName) prog_9_method_1_code (2 : Nat) (Option.none : Option Jvm.ClassFile.FieldType), Jvm.Cond.code ({ cls := "java/lang/Object", name := "<init>", desc := "()V" } : Jvm.MethodName) object_method_1_code (1 : Nat) (Option.none : Option Jvm.ClassFile.FieldType), Jvm.Cond.code ({ cls := "com/example/shingl/shingl/Fingerprint", name := "size", desc := "()I" } : Jvm.MethodName) prog_9_method_4_code (1 : Nat) (Option.some Jvm.ClassFile.FieldType.int), Jvm.Cond.code ({ cls := "com/example/shingl/shingl/Fingerprint", name := "minutia", desc := "(I)J" } : Jvm.MethodName) prog_9_method_5_code (2 : Nat) (Option.some Jvm.ClassFile.FieldType.long)]
set_option maxRecDepth 65536 in
theorem codes_eq : words1.filter isCode = codes1 := rfl
theorem w_codes : ∀ c ∈ words1.filter isCode, c.before args0 about1 = true := by
  rw [codes_eq]
  intro c hc
  simp only [codes1, List.mem_cons, List.not_mem_nil, or_false] at hc
  rcases hc with rfl | rfl | rfl | rfl | rfl | rfl | rfl | rfl
  · exact w_c0
  · exact w_c1
  · exact w_c2
  · exact w_c3
  · exact w_c4
  · exact w_c5
  · exact w_c6
  · exact w_c7
set_option maxRecDepth 65536 in
theorem w_t1 : (words1.take 24).all (fun c => isCode c || c.before args0 about1) = true := by decide +kernel
set_option maxRecDepth 65536 in
theorem w_t2 : (words1.drop 24).all (fun c => isCode c || c.before args0 about1) = true := by decide +kernel
theorem w_tables : (allAtoms (Jvm.Cond.code x code maxLocals ret :: tables_1)).before args0 about1 = true := by
  rw [allAtoms_all]
  show words1.all (fun c => c.before args0 about1) = true
  refine all_split ?_ w_codes
  rw [← List.take_append_drop 24 words1, List.all_append, w_t1, w_t2]
  rfl
set_option maxRecDepth 65536 in
theorem w_case : (Jvm.Cond.and given_1 narrow_1).before args0 about1 = true := by decide +kernel
theorem w_applies : (headSpec (Jvm.Cond.code x code maxLocals ret :: tables_1) room_1).applies x e0.platform about1 = true :=
  (Spec.applies_iff w_frames).mpr ⟨w_running, w_runnable, w_alone, w_named, w_hears, w_ripe, w_room, w_tables⟩
theorem atStart : AtStart classFile x code maxLocals ret World_1 tables_1 room_1 Calls_1 rest_1 Pre_1 launch0 p0 e0 about1 theMethod args0 below0 :=
  ⟨lists_1, trivial, launch0.admits_env _ _ _, launch0.least_env, fairChoices_fair.cas, fairChoices_fair.clock, w_frames, w_args, w_heap, w_applies, trivial, trivial, w_case⟩
end start1
theorem witness_1 : WitnessClaimed_1 := ⟨start1.p0, start1.e0, start1.about1, start1.theMethod, start1.args0, start1.below0, start1.atStart⟩
end Jvm.Pilot.@@N@@
