import JvmDerived
import JvmDerived.Pilot.@@N@@Statement
import JvmDerived.Pilot.@@N@@Code
set_option linter.unusedVariables false
set_option linter.unusedSimpArgs false
@@BLOCK:NumsL.lean.txt@@
namespace Jvm.Pilot.@@N@@
open Jvm Jvm.ClassFile Sem Op Lib Jvm.Free Jvm.Stand Jvm.LawKit Jvm.RoadKit Bundle Jvm.Pilot.@@N@@.Jvm.D
section OwnLayer
variable {p : Program} {l : Launch} {e : Env} {R : Room} {s : State} {m : MethodId} {args : Array Value} {below : List Frame} {meth : Method} {c : Code} {T : State} {locs : List Loc} {cells slots : Nat}
variable {F : State → Outcome → Prop} {kc ks : Nat} {Q : Option Value → Heap → List Loc → Prop} {pc pc' : Nat} {ls : Array Slot} {st : List Value} {Z : State} {a0 : Array Value} {h : Heap}
/-- from this state and frame the run comes to an end of which F holds -/
def Goes (p : Program) (e : Env) (below : List Frame) (F : State → Outcome → Prop) (T : State) (g : JFrame) : Prop :=
  ∃ s₂ o, Steps p.tables e below (T.setTop g) s₂ ∧ s₂.status = .running ∧ Ended s₂ below o ∧ F s₂ o
/-- it returns, Q holds of the value, the heap and the places written; the frame is the plain one -/
def FinN (s : State) (kc ks : Nat) (Q : Option Value → Heap → List Loc → Prop) (s₂ : State) (o : Outcome) : Prop := ∃ v L, o = .returned v ∧ Q v s₂.heap L ∧ FrameEnd s o s₂ L kc ks
theorem Goes.fore {T' : State} {g g' : JFrame} (k : ∀ target, Steps p.tables e below (T'.setTop g') target → Steps p.tables e below (T.setTop g) target) (G : Goes p e below F T' g') : Goes p e below F T g := by
  obtain ⟨a, b, h, r⟩ := G; exact ⟨a, b, k _ h, r⟩
theorem Goes.tr {T' : State} {g g' : JFrame} (k : Steps p.tables e below (T.setTop g) (T'.setTop g')) (G : Goes p e below F T' g') : Goes p e below F T g := by
  obtain ⟨a, b, h, r⟩ := G; exact ⟨a, b, k.trans h, r⟩
theorem Goes.cast {g g' : JFrame} (q : g = g') (G : Goes p e below F T g') : Goes p e below F T g := q ▸ G
/-- a body's contract: called with these arguments on this heap it returns, and Q holds of the value, the heap and the places written -/
def Ctr (l : Launch) (Z : State) (y : MethodName) (bytes : ByteArray) (maxL : Nat) (ret : Option FieldType) (ws : List Jvm.Cond) (rm : Room) (as' : Array Value) (h0 : Heap) (Q : Option Value → Heap → List Loc → Prop) : Prop :=
  MetFree l y (head1 (Jvm.Cond.code y bytes maxL ret :: ws) rm) (fun a U => a = as' ∧ Z.Warmed39 U.vm ∧ U.heap = h0) (fun _ _ _ _ _ => True) (fun _ U o U' => ∃ v L, o = .returned v ∧ Q v U'.heap L ∧ FrameEnd U o U' L rm.cells rm.slots)
theorem Ctr.of {y : MethodName} {bytes : ByteArray} {maxL : Nat} {ret : Option FieldType} {ws : List Jvm.Cond} {rm : Room} {as' : Array Value} {h0 : Heap} (hp : plainFor y = true)
    (body : ∀ (p : Program) (e : Env) (s : State) (m : MethodId) (below : List Frame) (meth : Method) (c : Code) (s₁ : State), p.tables.exec = Jvm.exec → c.code = bytes → c.maxLocals = maxL → meth.sig.returnType = ret → s.vm.findClass y.cls = some m.cls → meth.name = y.name → Z.Warmed39 s.vm → meth.locks = false → Stand p l e rm s m as' below meth c s₁ [] 0 0 → s₁.heap = h0 → Goes p e below (FinN s rm.cells rm.slots Q) s₁ (entryFrame m as' maxL)) :
    Ctr l Z y bytes maxL ret ws rm as' h0 Q := by
  refine MetFree.of_bodySF hp hisR ?_
  intro p e s m args below meth c s₁ Bd hml hP hK
  obtain ⟨rfl, hZ, hh⟩ := hP
  exact body p e s m below meth c s₁ Bd.exec Bd.bytes hml Bd.returns (findClass_of_methodNamed Bd.named) (name_of_methodNamed Bd.named Bd.method).1 hZ Bd.notSynchronized (Stand.of_body Bd) (by rw [← hh, Bd.state]; rfl)
theorem Ctr.mono {y : MethodName} {bytes : ByteArray} {maxL : Nat} {ret : Option FieldType} {ws : List Jvm.Cond} {rm : Room} {as' : Array Value} {h0 : Heap} {Q' : Option Value → Heap → List Loc → Prop} (C : Ctr l Z y bytes maxL ret ws rm as' h0 Q) (hq : ∀ v h L, Q v h L → Q' v h L) : Ctr l Z y bytes maxL ret ws rm as' h0 Q' := by
  intro p e ha hc hk s m args below hf happ hP hK
  obtain ⟨n, o, h1, h2, h3, v, L, h4, h5, h6⟩ := C p e ha hc hk s m args below hf happ hP hK
  exact ⟨n, o, h1, h2, h3, v, L, h4, hq _ _ _ h5, h6⟩
/-- it returns w and leaves the heap as it was -/
def Just (h0 : Heap) (w : Value) (v : Option Value) (h : Heap) (L : List Loc) : Prop := v = some w ∧ h = h0 ∧ L = []
theorem gLoadIN (X : Stand p l e R s m args below meth c T locs cells slots) (hx : p.tables.exec = Jvm.exec) {k : Fin 4} {v : Int32} (hd : decode c.code pc = .ok (.iload_n k, 1)) (hl : ls[k.val]? = some (.val (.int v))) (hp : pc + 1 = pc') (k : Goes p e below F T (mkF m pc' ls (.int v :: st))) : Goes p e below F T (mkF m pc ls st) := by
  subst hp; exact Goes.fore (fun _ q => XS.iloadN X.here hx rfl hd hl q) k
theorem gLoadI (X : Stand p l e R s m args below meth c T locs cells slots) (hx : p.tables.exec = Jvm.exec) {k : Nat} {v : Int32} (hd : decode c.code pc = .ok (.iload k, 2)) (hl : ls[k]? = some (.val (.int v))) (hp : pc + 2 = pc') (k : Goes p e below F T (mkF m pc' ls (.int v :: st))) : Goes p e below F T (mkF m pc ls st) := by
  subst hp; exact Goes.fore (fun _ q => XS.iload X.here hx rfl hd hl q) k
theorem gStoreIN (X : Stand p l e R s m args below meth c T locs cells slots) (hx : p.tables.exec = Jvm.exec) {k : Fin 4} {v : Int32} {l' : Array Slot} (hd : decode c.code pc = .ok (.istore_n k, 1)) (hl : storeLocals ls k.val (.int v) = some l') (hp : pc + 1 = pc') (k : Goes p e below F T (mkF m pc' l' st)) : Goes p e below F T (mkF m pc ls (.int v :: st)) := by
  subst hp; exact Goes.fore (fun _ q => XS.istoreN X.here hx rfl hd rfl hl q) k
theorem gStoreI (X : Stand p l e R s m args below meth c T locs cells slots) (hx : p.tables.exec = Jvm.exec) {k : Nat} {v : Int32} {l' : Array Slot} (hd : decode c.code pc = .ok (.istore k, 2)) (hl : storeLocals ls k (.int v) = some l') (hp : pc + 2 = pc') (k : Goes p e below F T (mkF m pc' l' st)) : Goes p e below F T (mkF m pc ls (.int v :: st)) := by
  subst hp; exact Goes.fore (fun _ q => XS.istore X.here hx rfl hd rfl hl q) k
theorem gLoadJN (X : Stand p l e R s m args below meth c T locs cells slots) (hx : p.tables.exec = Jvm.exec) {k : Fin 4} {v : Int64} (hd : decode c.code pc = .ok (.lload_n k, 1)) (hl : ls[k.val]? = some (.val (.long v))) (hp : pc + 1 = pc') (k : Goes p e below F T (mkF m pc' ls (.long v :: st))) : Goes p e below F T (mkF m pc ls st) := by
  subst hp; exact Goes.fore (fun _ q => XS.lloadN X.here hx rfl hd hl q) k
theorem gLoadJ (X : Stand p l e R s m args below meth c T locs cells slots) (hx : p.tables.exec = Jvm.exec) {k : Nat} {v : Int64} (hd : decode c.code pc = .ok (.lload k, 2)) (hl : ls[k]? = some (.val (.long v))) (hp : pc + 2 = pc') (k : Goes p e below F T (mkF m pc' ls (.long v :: st))) : Goes p e below F T (mkF m pc ls st) := by
  subst hp; exact Goes.fore (fun _ q => XS.lload X.here hx rfl hd hl q) k
theorem gStoreJN (X : Stand p l e R s m args below meth c T locs cells slots) (hx : p.tables.exec = Jvm.exec) {k : Fin 4} {v : Int64} {l' : Array Slot} (hd : decode c.code pc = .ok (.lstore_n k, 1)) (hl : storeLocals ls k.val (.long v) = some l') (hp : pc + 1 = pc') (k : Goes p e below F T (mkF m pc' l' st)) : Goes p e below F T (mkF m pc ls (.long v :: st)) := by
  subst hp; exact Goes.fore (fun _ q => XS.lstoreN X.here hx rfl hd rfl hl q) k
theorem gStoreJ (X : Stand p l e R s m args below meth c T locs cells slots) (hx : p.tables.exec = Jvm.exec) {k : Nat} {v : Int64} {l' : Array Slot} (hd : decode c.code pc = .ok (.lstore k, 2)) (hl : storeLocals ls k (.long v) = some l') (hp : pc + 2 = pc') (k : Goes p e below F T (mkF m pc' l' st)) : Goes p e below F T (mkF m pc ls (.long v :: st)) := by
  subst hp; exact Goes.fore (fun _ q => XS.lstore X.here hx rfl hd rfl hl q) k
theorem gLoadAN (X : Stand p l e R s m args below meth c T locs cells slots) (hx : p.tables.exec = Jvm.exec) {k : Fin 4} {v : Value} (hd : decode c.code pc = .ok (.aload_n k, 1)) (hl : ls[k.val]? = some (.val v)) (hv : v.isRef = true) (hp : pc + 1 = pc') (k : Goes p e below F T (mkF m pc' ls (v :: st))) : Goes p e below F T (mkF m pc ls st) := by
  subst hp; exact Goes.fore (fun _ q => XS.aloadN X.here hx rfl hd hl hv q) k
theorem gLoadA (X : Stand p l e R s m args below meth c T locs cells slots) (hx : p.tables.exec = Jvm.exec) {k : Nat} {v : Value} (hd : decode c.code pc = .ok (.aload k, 2)) (hl : ls[k]? = some (.val v)) (hv : v.isRef = true) (hp : pc + 2 = pc') (k : Goes p e below F T (mkF m pc' ls (v :: st))) : Goes p e below F T (mkF m pc ls st) := by
  subst hp; exact Goes.fore (fun _ q => XS.aload X.here hx rfl hd hl hv q) k
theorem gStoreAN (X : Stand p l e R s m args below meth c T locs cells slots) (hx : p.tables.exec = Jvm.exec) {k : Fin 4} {v : Value} {l' : Array Slot} (hd : decode c.code pc = .ok (.astore_n k, 1)) (hv : v.isRef = true) (hl : storeLocals ls k.val v = some l') (hp : pc + 1 = pc') (k : Goes p e below F T (mkF m pc' l' st)) : Goes p e below F T (mkF m pc ls (v :: st)) := by
  subst hp; exact Goes.fore (fun _ q => XS.astoreN X.here hx rfl hd rfl hv hl q) k
theorem gStoreA (X : Stand p l e R s m args below meth c T locs cells slots) (hx : p.tables.exec = Jvm.exec) {k : Nat} {v : Value} {l' : Array Slot} (hd : decode c.code pc = .ok (.astore k, 2)) (hv : v.isRef = true) (hl : storeLocals ls k v = some l') (hp : pc + 2 = pc') (k : Goes p e below F T (mkF m pc' l' st)) : Goes p e below F T (mkF m pc ls (v :: st)) := by
  subst hp; exact Goes.fore (fun _ q => XS.astore X.here hx rfl hd rfl hv hl q) k
theorem gIconst (X : Stand p l e R s m args below meth c T locs cells slots) (hx : p.tables.exec = Jvm.exec) {i : Int} {v : Int32} (hd : decode c.code pc = .ok (.iconst i, 1)) (hv : Int32.ofInt i = v) (hp : pc + 1 = pc') (k : Goes p e below F T (mkF m pc' ls (.int v :: st))) : Goes p e below F T (mkF m pc ls st) := by
  subst hp; exact Goes.fore (fun _ q => XT.iconstV X.here hx rfl v hd hv q) k
theorem gBipush (X : Stand p l e R s m args below meth c T locs cells slots) (hx : p.tables.exec = Jvm.exec) {i : Int} {v : Int32} (hd : decode c.code pc = .ok (.bipush i, 2)) (hv : (Int8.ofInt i).toInt32 = v) (hp : pc + 2 = pc') (k : Goes p e below F T (mkF m pc' ls (.int v :: st))) : Goes p e below F T (mkF m pc ls st) := by
  subst hp; exact Goes.fore (fun _ q => XT.bipushV X.here hx rfl v hd hv q) k
theorem gSipush (X : Stand p l e R s m args below meth c T locs cells slots) (hx : p.tables.exec = Jvm.exec) {i : Int} {v : Int32} (hd : decode c.code pc = .ok (.sipush i, 3)) (hv : (Int16.ofInt i).toInt32 = v) (hp : pc + 3 = pc') (k : Goes p e below F T (mkF m pc' ls (.int v :: st))) : Goes p e below F T (mkF m pc ls st) := by
  subst hp; exact Goes.fore (fun _ q => XT.sipushV X.here hx rfl v hd hv q) k
theorem gLconst (X : Stand p l e R s m args below meth c T locs cells slots) (hx : p.tables.exec = Jvm.exec) {i : Fin 2} {v : Int64} (hd : decode c.code pc = .ok (.lconst i, 1)) (hv : Int64.ofNat i = v) (hp : pc + 1 = pc') (k : Goes p e below F T (mkF m pc' ls (.long v :: st))) : Goes p e below F T (mkF m pc ls st) := by
  subst hp; exact Goes.fore (fun _ q => XT.lconstV X.here hx rfl v hd hv q) k
theorem gNull (X : Stand p l e R s m args below meth c T locs cells slots) (hx : p.tables.exec = Jvm.exec)  (hd : decode c.code pc = .ok (.aconst_null, 1))  (hp : pc + 1 = pc') (k : Goes p e below F T (mkF m pc' ls (.null :: st))) : Goes p e below F T (mkF m pc ls st) := by
  subst hp; exact Goes.fore (fun _ q => XS.aconstNull X.here hx rfl hd q) k
theorem gLdc (X : Stand p l e R s m args below meth c T locs cells slots) (hx : p.tables.exec = Jvm.exec) {own : String} {i : Nat} {v : Int32} (hZ : Z.Warmed39 s.vm) (hown : s.vm.findClass own = some m.cls) (w : (Jvm.Cond.constant own i v).before a0 Z = true) (hd : decode c.code pc = .ok (.ldc i, 2))  (hp : pc + 2 = pc') (k : Goes p e below F T (mkF m pc' ls (.int v :: st))) : Goes p e below F T (mkF m pc ls st) := by
  subst hp; exact Goes.fore (fun _ q => X.ldcI hx hown (mvT hZ w) rfl hd q) k
theorem gLdcW (X : Stand p l e R s m args below meth c T locs cells slots) (hx : p.tables.exec = Jvm.exec) {own : String} {i : Nat} {v : Int32} (hZ : Z.Warmed39 s.vm) (hown : s.vm.findClass own = some m.cls) (w : (Jvm.Cond.constant own i v).before a0 Z = true) (hd : decode c.code pc = .ok (.ldc_w i, 3))  (hp : pc + 3 = pc') (k : Goes p e below F T (mkF m pc' ls (.int v :: st))) : Goes p e below F T (mkF m pc ls st) := by
  subst hp; exact Goes.fore (fun _ q => X.ldcWI hx hown (mvT hZ w) rfl hd q) k
theorem gLdc2 (X : Stand p l e R s m args below meth c T locs cells slots) (hx : p.tables.exec = Jvm.exec) {own : String} {i : Nat} {v : Int64} (hZ : Z.Warmed39 s.vm) (hown : s.vm.findClass own = some m.cls) (w : (Jvm.Cond.constantLong own i v).before a0 Z = true) (hd : decode c.code pc = .ok (.ldc2_w i, 3))  (hp : pc + 3 = pc') (k : Goes p e below F T (mkF m pc' ls (.long v :: st))) : Goes p e below F T (mkF m pc ls st) := by
  subst hp; exact Goes.fore (fun _ q => X.ldc2J hx hown (mvT hZ w) rfl hd q) k
theorem gIadd (X : Stand p l e R s m args below meth c T locs cells slots) (hx : p.tables.exec = Jvm.exec) {x y : Int32} (hd : decode c.code pc = .ok (.iadd, 1))  (hp : pc + 1 = pc') (k : Goes p e below F T (mkF m pc' ls (.int (x + y) :: st))) : Goes p e below F T (mkF m pc ls (.int y :: .int x :: st)) := by
  subst hp; exact Goes.fore (fun _ q => XS.iadd X.here hx rfl hd rfl q) k
theorem gIsub (X : Stand p l e R s m args below meth c T locs cells slots) (hx : p.tables.exec = Jvm.exec) {x y : Int32} (hd : decode c.code pc = .ok (.isub, 1))  (hp : pc + 1 = pc') (k : Goes p e below F T (mkF m pc' ls (.int (x - y) :: st))) : Goes p e below F T (mkF m pc ls (.int y :: .int x :: st)) := by
  subst hp; exact Goes.fore (fun _ q => XS.isub X.here hx rfl hd rfl q) k
theorem gImul (X : Stand p l e R s m args below meth c T locs cells slots) (hx : p.tables.exec = Jvm.exec) {x y : Int32} (hd : decode c.code pc = .ok (.imul, 1))  (hp : pc + 1 = pc') (k : Goes p e below F T (mkF m pc' ls (.int (x * y) :: st))) : Goes p e below F T (mkF m pc ls (.int y :: .int x :: st)) := by
  subst hp; exact Goes.fore (fun _ q => XS.imul X.here hx rfl hd rfl q) k
theorem gIand (X : Stand p l e R s m args below meth c T locs cells slots) (hx : p.tables.exec = Jvm.exec) {x y : Int32} (hd : decode c.code pc = .ok (.iand, 1))  (hp : pc + 1 = pc') (k : Goes p e below F T (mkF m pc' ls (.int (x &&& y) :: st))) : Goes p e below F T (mkF m pc ls (.int y :: .int x :: st)) := by
  subst hp; exact Goes.fore (fun _ q => XS.iand X.here hx rfl hd rfl q) k
theorem gIor (X : Stand p l e R s m args below meth c T locs cells slots) (hx : p.tables.exec = Jvm.exec) {x y : Int32} (hd : decode c.code pc = .ok (.ior, 1))  (hp : pc + 1 = pc') (k : Goes p e below F T (mkF m pc' ls (.int (x ||| y) :: st))) : Goes p e below F T (mkF m pc ls (.int y :: .int x :: st)) := by
  subst hp; exact Goes.fore (fun _ q => XS.ior X.here hx rfl hd rfl q) k
theorem gIxor (X : Stand p l e R s m args below meth c T locs cells slots) (hx : p.tables.exec = Jvm.exec) {x y : Int32} (hd : decode c.code pc = .ok (.ixor, 1))  (hp : pc + 1 = pc') (k : Goes p e below F T (mkF m pc' ls (.int (x ^^^ y) :: st))) : Goes p e below F T (mkF m pc ls (.int y :: .int x :: st)) := by
  subst hp; exact Goes.fore (fun _ q => XS.ixor X.here hx rfl hd rfl q) k
theorem gIshl (X : Stand p l e R s m args below meth c T locs cells slots) (hx : p.tables.exec = Jvm.exec) {x y : Int32} (hd : decode c.code pc = .ok (.ishl, 1))  (hp : pc + 1 = pc') (k : Goes p e below F T (mkF m pc' ls (.int (x <<< (y &&& 31)) :: st))) : Goes p e below F T (mkF m pc ls (.int y :: .int x :: st)) := by
  subst hp; exact Goes.fore (fun _ q => XS.ishl X.here hx rfl hd rfl q) k
theorem gIshr (X : Stand p l e R s m args below meth c T locs cells slots) (hx : p.tables.exec = Jvm.exec) {x y : Int32} (hd : decode c.code pc = .ok (.ishr, 1))  (hp : pc + 1 = pc') (k : Goes p e below F T (mkF m pc' ls (.int (x >>> (y &&& 31)) :: st))) : Goes p e below F T (mkF m pc ls (.int y :: .int x :: st)) := by
  subst hp; exact Goes.fore (fun _ q => XS.ishr X.here hx rfl hd rfl q) k
theorem gIushr (X : Stand p l e R s m args below meth c T locs cells slots) (hx : p.tables.exec = Jvm.exec) {x y : Int32} (hd : decode c.code pc = .ok (.iushr, 1))  (hp : pc + 1 = pc') (k : Goes p e below F T (mkF m pc' ls (.int ((x.toUInt32 >>> (y &&& 31).toUInt32).toInt32) :: st))) : Goes p e below F T (mkF m pc ls (.int y :: .int x :: st)) := by
  subst hp; exact Goes.fore (fun _ q => XS.iushr X.here hx rfl hd rfl q) k
theorem gLadd (X : Stand p l e R s m args below meth c T locs cells slots) (hx : p.tables.exec = Jvm.exec) {x y : Int64} (hd : decode c.code pc = .ok (.ladd, 1))  (hp : pc + 1 = pc') (k : Goes p e below F T (mkF m pc' ls (.long (x + y) :: st))) : Goes p e below F T (mkF m pc ls (.long y :: .long x :: st)) := by
  subst hp; exact Goes.fore (fun _ q => XS.ladd X.here hx rfl hd rfl q) k
theorem gLsub (X : Stand p l e R s m args below meth c T locs cells slots) (hx : p.tables.exec = Jvm.exec) {x y : Int64} (hd : decode c.code pc = .ok (.lsub, 1))  (hp : pc + 1 = pc') (k : Goes p e below F T (mkF m pc' ls (.long (x - y) :: st))) : Goes p e below F T (mkF m pc ls (.long y :: .long x :: st)) := by
  subst hp; exact Goes.fore (fun _ q => XS.lsub X.here hx rfl hd rfl q) k
theorem gLmul (X : Stand p l e R s m args below meth c T locs cells slots) (hx : p.tables.exec = Jvm.exec) {x y : Int64} (hd : decode c.code pc = .ok (.lmul, 1))  (hp : pc + 1 = pc') (k : Goes p e below F T (mkF m pc' ls (.long (x * y) :: st))) : Goes p e below F T (mkF m pc ls (.long y :: .long x :: st)) := by
  subst hp; exact Goes.fore (fun _ q => XS.lmul X.here hx rfl hd rfl q) k
theorem gLand (X : Stand p l e R s m args below meth c T locs cells slots) (hx : p.tables.exec = Jvm.exec) {x y : Int64} (hd : decode c.code pc = .ok (.land, 1))  (hp : pc + 1 = pc') (k : Goes p e below F T (mkF m pc' ls (.long (x &&& y) :: st))) : Goes p e below F T (mkF m pc ls (.long y :: .long x :: st)) := by
  subst hp; exact Goes.fore (fun _ q => XS.land X.here hx rfl hd rfl q) k
theorem gLor (X : Stand p l e R s m args below meth c T locs cells slots) (hx : p.tables.exec = Jvm.exec) {x y : Int64} (hd : decode c.code pc = .ok (.lor, 1))  (hp : pc + 1 = pc') (k : Goes p e below F T (mkF m pc' ls (.long (x ||| y) :: st))) : Goes p e below F T (mkF m pc ls (.long y :: .long x :: st)) := by
  subst hp; exact Goes.fore (fun _ q => XS.lor X.here hx rfl hd rfl q) k
theorem gLxor (X : Stand p l e R s m args below meth c T locs cells slots) (hx : p.tables.exec = Jvm.exec) {x y : Int64} (hd : decode c.code pc = .ok (.lxor, 1))  (hp : pc + 1 = pc') (k : Goes p e below F T (mkF m pc' ls (.long (x ^^^ y) :: st))) : Goes p e below F T (mkF m pc ls (.long y :: .long x :: st)) := by
  subst hp; exact Goes.fore (fun _ q => XS.lxor X.here hx rfl hd rfl q) k
theorem gLshl (X : Stand p l e R s m args below meth c T locs cells slots) (hx : p.tables.exec = Jvm.exec) {x : Int64} {y : Int32} (hd : decode c.code pc = .ok (.lshl, 1))  (hp : pc + 1 = pc') (k : Goes p e below F T (mkF m pc' ls (.long (x <<< (y &&& 0x3f).toInt64) :: st))) : Goes p e below F T (mkF m pc ls (.int y :: .long x :: st)) := by
  subst hp; exact Goes.fore (fun _ q => XS.lshl X.here hx rfl hd rfl q) k
theorem gLshr (X : Stand p l e R s m args below meth c T locs cells slots) (hx : p.tables.exec = Jvm.exec) {x : Int64} {y : Int32} (hd : decode c.code pc = .ok (.lshr, 1))  (hp : pc + 1 = pc') (k : Goes p e below F T (mkF m pc' ls (.long (x >>> (y &&& 0x3f).toInt64) :: st))) : Goes p e below F T (mkF m pc ls (.int y :: .long x :: st)) := by
  subst hp; exact Goes.fore (fun _ q => XS.lshr X.here hx rfl hd rfl q) k
theorem gLushr (X : Stand p l e R s m args below meth c T locs cells slots) (hx : p.tables.exec = Jvm.exec) {x : Int64} {y : Int32} (hd : decode c.code pc = .ok (.lushr, 1))  (hp : pc + 1 = pc') (k : Goes p e below F T (mkF m pc' ls (.long ((x.toUInt64 >>> (y &&& 0x3f).toInt64.toUInt64).toInt64) :: st))) : Goes p e below F T (mkF m pc ls (.int y :: .long x :: st)) := by
  subst hp; exact Goes.fore (fun _ q => XS.lushr X.here hx rfl hd rfl q) k
theorem gIdiv (X : Stand p l e R s m args below meth c T locs cells slots) (hx : p.tables.exec = Jvm.exec) {x y : Int32} (hd : decode c.code pc = .ok (.idiv, 1)) (hy : y ≠ 0) (hp : pc + 1 = pc') (k : Goes p e below F T (mkF m pc' ls (.int (x / y) :: st))) : Goes p e below F T (mkF m pc ls (.int y :: .int x :: st)) := by
  subst hp; exact Goes.fore (fun _ q => XS.idiv X.here hx rfl hd rfl hy q) k
theorem gIrem (X : Stand p l e R s m args below meth c T locs cells slots) (hx : p.tables.exec = Jvm.exec) {x y : Int32} (hd : decode c.code pc = .ok (.irem, 1)) (hy : y ≠ 0) (hp : pc + 1 = pc') (k : Goes p e below F T (mkF m pc' ls (.int (x % y) :: st))) : Goes p e below F T (mkF m pc ls (.int y :: .int x :: st)) := by
  subst hp; exact Goes.fore (fun _ q => iremM X hx rfl hd rfl hy q) k
theorem gIneg (X : Stand p l e R s m args below meth c T locs cells slots) (hx : p.tables.exec = Jvm.exec) {x : Int32} (hd : decode c.code pc = .ok (.ineg, 1))  (hp : pc + 1 = pc') (k : Goes p e below F T (mkF m pc' ls (.int (-x) :: st))) : Goes p e below F T (mkF m pc ls (.int x :: st)) := by
  subst hp; exact Goes.fore (fun _ q => XS.ineg X.here hx rfl hd rfl q) k
theorem gLneg (X : Stand p l e R s m args below meth c T locs cells slots) (hx : p.tables.exec = Jvm.exec) {x : Int64} (hd : decode c.code pc = .ok (.lneg, 1))  (hp : pc + 1 = pc') (k : Goes p e below F T (mkF m pc' ls (.long (-x) :: st))) : Goes p e below F T (mkF m pc ls (.long x :: st)) := by
  subst hp; exact Goes.fore (fun _ q => XS.lneg X.here hx rfl hd rfl q) k
theorem gI2l (X : Stand p l e R s m args below meth c T locs cells slots) (hx : p.tables.exec = Jvm.exec) {x : Int32} (hd : decode c.code pc = .ok (.i2l, 1))  (hp : pc + 1 = pc') (k : Goes p e below F T (mkF m pc' ls (.long (x.toInt64) :: st))) : Goes p e below F T (mkF m pc ls (.int x :: st)) := by
  subst hp; exact Goes.fore (fun _ q => XS.i2l X.here hx rfl hd rfl q) k
theorem gL2i (X : Stand p l e R s m args below meth c T locs cells slots) (hx : p.tables.exec = Jvm.exec) {x : Int64} (hd : decode c.code pc = .ok (.l2i, 1))  (hp : pc + 1 = pc') (k : Goes p e below F T (mkF m pc' ls (.int (x.toInt32) :: st))) : Goes p e below F T (mkF m pc ls (.long x :: st)) := by
  subst hp; exact Goes.fore (fun _ q => XS.l2i X.here hx rfl hd rfl q) k
theorem gI2b (X : Stand p l e R s m args below meth c T locs cells slots) (hx : p.tables.exec = Jvm.exec) {x : Int32} (hd : decode c.code pc = .ok (.i2b, 1))  (hp : pc + 1 = pc') (k : Goes p e below F T (mkF m pc' ls (.int (x.toInt8.toInt32) :: st))) : Goes p e below F T (mkF m pc ls (.int x :: st)) := by
  subst hp; exact Goes.fore (fun _ q => XS.i2b X.here hx rfl hd rfl q) k
theorem gI2c (X : Stand p l e R s m args below meth c T locs cells slots) (hx : p.tables.exec = Jvm.exec) {x : Int32} (hd : decode c.code pc = .ok (.i2c, 1))  (hp : pc + 1 = pc') (k : Goes p e below F T (mkF m pc' ls (.int (x.toUInt32.toUInt16.toUInt32.toInt32) :: st))) : Goes p e below F T (mkF m pc ls (.int x :: st)) := by
  subst hp; exact Goes.fore (fun _ q => XS.i2c X.here hx rfl hd rfl q) k
theorem gI2s (X : Stand p l e R s m args below meth c T locs cells slots) (hx : p.tables.exec = Jvm.exec) {x : Int32} (hd : decode c.code pc = .ok (.i2s, 1))  (hp : pc + 1 = pc') (k : Goes p e below F T (mkF m pc' ls (.int (x.toInt16.toInt32) :: st))) : Goes p e below F T (mkF m pc ls (.int x :: st)) := by
  subst hp; exact Goes.fore (fun _ q => XS.i2s X.here hx rfl hd rfl q) k
theorem gLcmp (X : Stand p l e R s m args below meth c T locs cells slots) (hx : p.tables.exec = Jvm.exec) {x y : Int64} (hd : decode c.code pc = .ok (.lcmp, 1))  (hp : pc + 1 = pc') (k : Goes p e below F T (mkF m pc' ls (.int (lcmpW x y) :: st))) : Goes p e below F T (mkF m pc ls (.long y :: .long x :: st)) := by
  subst hp; exact Goes.fore (fun _ q => XS.lcmp X.here hx rfl hd rfl q) k
theorem gIinc (X : Stand p l e R s m args below meth c T locs cells slots) (hx : p.tables.exec = Jvm.exec) {k : Nat} {i : Int} {x v : Int32} {l' : Array Slot} (hd : decode c.code pc = .ok (.iinc k i, 3)) (hv : Int32.ofInt i = v) (hl : ls[k]? = some (.val (.int x))) (hl' : storeLocals ls k (.int (x + v)) = some l') (hp : pc + 3 = pc') (k : Goes p e below F T (mkF m pc' l' st)) : Goes p e below F T (mkF m pc ls st) := by
  subst hp; exact Goes.fore (fun _ q => XT.iincV X.here hx rfl v hd hv hl hl' q) k
theorem gDup (X : Stand p l e R s m args below meth c T locs cells slots) (hx : p.tables.exec = Jvm.exec) {v : Value} (hd : decode c.code pc = .ok (.dup, 1)) (hv : v.category = 1) (hp : pc + 1 = pc') (k : Goes p e below F T (mkF m pc' ls (v :: v :: st))) : Goes p e below F T (mkF m pc ls (v :: st)) := by
  subst hp; exact Goes.fore (fun _ q => XS.dup X.here hx rfl hd rfl hv q) k
theorem gPop (X : Stand p l e R s m args below meth c T locs cells slots) (hx : p.tables.exec = Jvm.exec) {v : Value} (hd : decode c.code pc = .ok (.pop, 1)) (hv : v.category = 1) (hp : pc + 1 = pc') (k : Goes p e below F T (mkF m pc' ls st)) : Goes p e below F T (mkF m pc ls (v :: st)) := by
  subst hp; exact Goes.fore (fun _ q => XS.pop X.here hx rfl hd rfl hv q) k
theorem gDupX1 (X : Stand p l e R s m args below meth c T locs cells slots) (hx : p.tables.exec = Jvm.exec) {v w : Value} (hd : decode c.code pc = .ok (.dup_x1, 1)) (hv : v.category = 1) (hw : w.category = 1) (hp : pc + 1 = pc') (k : Goes p e below F T (mkF m pc' ls (v :: w :: v :: st))) : Goes p e below F T (mkF m pc ls (v :: w :: st)) := by
  subst hp; exact Goes.fore (fun _ q => XS.dupX1 X.here hx rfl hd rfl hv hw q) k
theorem gDup2 (X : Stand p l e R s m args below meth c T locs cells slots) (hx : p.tables.exec = Jvm.exec) {v w : Value} (hd : decode c.code pc = .ok (.dup2, 1)) (hv : v.category = 1) (hw : w.category = 1) (hp : pc + 1 = pc') (k : Goes p e below F T (mkF m pc' ls (v :: w :: v :: w :: st))) : Goes p e below F T (mkF m pc ls (v :: w :: st)) := by
  subst hp; exact Goes.fore (fun _ q => XT.dup2 X.here hx rfl hd rfl hv hw q) k
theorem gGoto (X : Stand p l e R s m args below meth c T locs cells slots) (hx : p.tables.exec = Jvm.exec) {o : Int} (hd : decode c.code pc = .ok (.goto o, 3)) (ho : 0 ≤ (pc : Int) + o) (hp : ((pc : Int) + o).toNat = pc') (k : Goes p e below F T (mkF m pc' ls st)) : Goes p e below F T (mkF m pc ls st) := Goes.fore (fun _ q => XS.goto X.here hx rfl rfl hd ho hp q) k
theorem gIcmp (X : Stand p l e R s m args below meth c T locs cells slots) (hx : p.tables.exec = Jvm.exec) {cd : ClassFile.Cond} {o : Int} {x y : Int32} {pn : Nat} (hd : decode c.code pc = .ok (.if_icmp cd o, 3)) (ho : 0 ≤ (pc : Int) + o) (hp : ((pc : Int) + o).toNat = pc') (hn : pc + 3 = pn) (kY : if_icmp.holds cd x y = true → Goes p e below F T (mkF m pc' ls st)) (kN : if_icmp.holds cd x y = false → Goes p e below F T (mkF m pn ls st)) : Goes p e below F T (mkF m pc ls (.int y :: .int x :: st)) := by
  subst hn
  cases hb : if_icmp.holds cd x y
  · exact Goes.fore (fun _ q => XS.icmpNo X.here hx rfl hd rfl hb q) (kN hb)
  · exact Goes.fore (fun _ q => XS.icmpYes X.here hx rfl rfl hd rfl hb ho hp q) (kY hb)
theorem gIf (X : Stand p l e R s m args below meth c T locs cells slots) (hx : p.tables.exec = Jvm.exec) {cd : ClassFile.Cond} {o : Int} {x : Int32} {pn : Nat} (hd : decode c.code pc = .ok (.ifCond cd o, 3)) (ho : 0 ≤ (pc : Int) + o) (hp : ((pc : Int) + o).toNat = pc') (hn : pc + 3 = pn) (kY : ifCond.holds cd x = true → Goes p e below F T (mkF m pc' ls st)) (kN : ifCond.holds cd x = false → Goes p e below F T (mkF m pn ls st)) : Goes p e below F T (mkF m pc ls (.int x :: st)) := by
  subst hn
  cases hb : ifCond.holds cd x
  · exact Goes.fore (fun _ q => XS.ifNo X.here hx rfl hd rfl hb q) (kN hb)
  · exact Goes.fore (fun _ q => XS.ifYes X.here hx rfl rfl hd rfl hb ho hp q) (kY hb)
theorem gIcmpEq (X : Stand p l e R s m args below meth c T locs cells slots) (hx : p.tables.exec = Jvm.exec) {o : Int} {x y : Int32} {pn : Nat} (hd : decode c.code pc = .ok (.if_icmp .eq o, 3)) (ho : 0 ≤ (pc : Int) + o) (hp : ((pc : Int) + o).toNat = pc') (hn : pc + 3 = pn) (kY : x = y → Goes p e below F T (mkF m pc' ls st)) (kN : ¬ x = y → Goes p e below F T (mkF m pn ls st)) : Goes p e below F T (mkF m pc ls (.int y :: .int x :: st)) :=
  gIcmp X hx hd ho hp hn (fun q => kY (by simpa [if_icmp.holds, Int32.lt_iff_toInt_lt, Int32.le_iff_toInt_le] using q)) (fun q => kN (by simpa [if_icmp.holds, Int32.lt_iff_toInt_lt, Int32.le_iff_toInt_le] using q))
theorem gIfEq (X : Stand p l e R s m args below meth c T locs cells slots) (hx : p.tables.exec = Jvm.exec) {o : Int} {x : Int32} {pn : Nat} (hd : decode c.code pc = .ok (.ifCond .eq o, 3)) (ho : 0 ≤ (pc : Int) + o) (hp : ((pc : Int) + o).toNat = pc') (hn : pc + 3 = pn) (kY : x = 0 → Goes p e below F T (mkF m pc' ls st)) (kN : ¬ x = 0 → Goes p e below F T (mkF m pn ls st)) : Goes p e below F T (mkF m pc ls (.int x :: st)) :=
  gIf X hx hd ho hp hn (fun q => kY (by simpa [ifCond.holds, Int32.lt_iff_toInt_lt, Int32.le_iff_toInt_le] using q)) (fun q => kN (by simpa [ifCond.holds, Int32.lt_iff_toInt_lt, Int32.le_iff_toInt_le] using q))
theorem gIcmpNe (X : Stand p l e R s m args below meth c T locs cells slots) (hx : p.tables.exec = Jvm.exec) {o : Int} {x y : Int32} {pn : Nat} (hd : decode c.code pc = .ok (.if_icmp .ne o, 3)) (ho : 0 ≤ (pc : Int) + o) (hp : ((pc : Int) + o).toNat = pc') (hn : pc + 3 = pn) (kY : ¬ x = y → Goes p e below F T (mkF m pc' ls st)) (kN : x = y → Goes p e below F T (mkF m pn ls st)) : Goes p e below F T (mkF m pc ls (.int y :: .int x :: st)) :=
  gIcmp X hx hd ho hp hn (fun q => kY (by simpa [if_icmp.holds, Int32.lt_iff_toInt_lt, Int32.le_iff_toInt_le] using q)) (fun q => kN (by simpa [if_icmp.holds, Int32.lt_iff_toInt_lt, Int32.le_iff_toInt_le] using q))
theorem gIfNe (X : Stand p l e R s m args below meth c T locs cells slots) (hx : p.tables.exec = Jvm.exec) {o : Int} {x : Int32} {pn : Nat} (hd : decode c.code pc = .ok (.ifCond .ne o, 3)) (ho : 0 ≤ (pc : Int) + o) (hp : ((pc : Int) + o).toNat = pc') (hn : pc + 3 = pn) (kY : ¬ x = 0 → Goes p e below F T (mkF m pc' ls st)) (kN : x = 0 → Goes p e below F T (mkF m pn ls st)) : Goes p e below F T (mkF m pc ls (.int x :: st)) :=
  gIf X hx hd ho hp hn (fun q => kY (by simpa [ifCond.holds, Int32.lt_iff_toInt_lt, Int32.le_iff_toInt_le] using q)) (fun q => kN (by simpa [ifCond.holds, Int32.lt_iff_toInt_lt, Int32.le_iff_toInt_le] using q))
theorem gIcmpLt (X : Stand p l e R s m args below meth c T locs cells slots) (hx : p.tables.exec = Jvm.exec) {o : Int} {x y : Int32} {pn : Nat} (hd : decode c.code pc = .ok (.if_icmp .lt o, 3)) (ho : 0 ≤ (pc : Int) + o) (hp : ((pc : Int) + o).toNat = pc') (hn : pc + 3 = pn) (kY : x.toInt < y.toInt → Goes p e below F T (mkF m pc' ls st)) (kN : y.toInt ≤ x.toInt → Goes p e below F T (mkF m pn ls st)) : Goes p e below F T (mkF m pc ls (.int y :: .int x :: st)) :=
  gIcmp X hx hd ho hp hn (fun q => kY (by simpa [if_icmp.holds, Int32.lt_iff_toInt_lt, Int32.le_iff_toInt_le] using q)) (fun q => kN (by simpa [if_icmp.holds, Int32.lt_iff_toInt_lt, Int32.le_iff_toInt_le] using q))
theorem gIfLt (X : Stand p l e R s m args below meth c T locs cells slots) (hx : p.tables.exec = Jvm.exec) {o : Int} {x : Int32} {pn : Nat} (hd : decode c.code pc = .ok (.ifCond .lt o, 3)) (ho : 0 ≤ (pc : Int) + o) (hp : ((pc : Int) + o).toNat = pc') (hn : pc + 3 = pn) (kY : x.toInt < (0 : Int) → Goes p e below F T (mkF m pc' ls st)) (kN : (0 : Int) ≤ x.toInt → Goes p e below F T (mkF m pn ls st)) : Goes p e below F T (mkF m pc ls (.int x :: st)) :=
  gIf X hx hd ho hp hn (fun q => kY (by simpa [ifCond.holds, Int32.lt_iff_toInt_lt, Int32.le_iff_toInt_le] using q)) (fun q => kN (by simpa [ifCond.holds, Int32.lt_iff_toInt_lt, Int32.le_iff_toInt_le] using q))
theorem gIcmpGe (X : Stand p l e R s m args below meth c T locs cells slots) (hx : p.tables.exec = Jvm.exec) {o : Int} {x y : Int32} {pn : Nat} (hd : decode c.code pc = .ok (.if_icmp .ge o, 3)) (ho : 0 ≤ (pc : Int) + o) (hp : ((pc : Int) + o).toNat = pc') (hn : pc + 3 = pn) (kY : y.toInt ≤ x.toInt → Goes p e below F T (mkF m pc' ls st)) (kN : x.toInt < y.toInt → Goes p e below F T (mkF m pn ls st)) : Goes p e below F T (mkF m pc ls (.int y :: .int x :: st)) :=
  gIcmp X hx hd ho hp hn (fun q => kY (by simpa [if_icmp.holds, Int32.lt_iff_toInt_lt, Int32.le_iff_toInt_le] using q)) (fun q => kN (by simpa [if_icmp.holds, Int32.lt_iff_toInt_lt, Int32.le_iff_toInt_le] using q))
theorem gIfGe (X : Stand p l e R s m args below meth c T locs cells slots) (hx : p.tables.exec = Jvm.exec) {o : Int} {x : Int32} {pn : Nat} (hd : decode c.code pc = .ok (.ifCond .ge o, 3)) (ho : 0 ≤ (pc : Int) + o) (hp : ((pc : Int) + o).toNat = pc') (hn : pc + 3 = pn) (kY : (0 : Int) ≤ x.toInt → Goes p e below F T (mkF m pc' ls st)) (kN : x.toInt < (0 : Int) → Goes p e below F T (mkF m pn ls st)) : Goes p e below F T (mkF m pc ls (.int x :: st)) :=
  gIf X hx hd ho hp hn (fun q => kY (by simpa [ifCond.holds, Int32.lt_iff_toInt_lt, Int32.le_iff_toInt_le] using q)) (fun q => kN (by simpa [ifCond.holds, Int32.lt_iff_toInt_lt, Int32.le_iff_toInt_le] using q))
theorem gIcmpGt (X : Stand p l e R s m args below meth c T locs cells slots) (hx : p.tables.exec = Jvm.exec) {o : Int} {x y : Int32} {pn : Nat} (hd : decode c.code pc = .ok (.if_icmp .gt o, 3)) (ho : 0 ≤ (pc : Int) + o) (hp : ((pc : Int) + o).toNat = pc') (hn : pc + 3 = pn) (kY : y.toInt < x.toInt → Goes p e below F T (mkF m pc' ls st)) (kN : x.toInt ≤ y.toInt → Goes p e below F T (mkF m pn ls st)) : Goes p e below F T (mkF m pc ls (.int y :: .int x :: st)) :=
  gIcmp X hx hd ho hp hn (fun q => kY (by simpa [if_icmp.holds, Int32.lt_iff_toInt_lt, Int32.le_iff_toInt_le] using q)) (fun q => kN (by simpa [if_icmp.holds, Int32.lt_iff_toInt_lt, Int32.le_iff_toInt_le] using q))
theorem gIfGt (X : Stand p l e R s m args below meth c T locs cells slots) (hx : p.tables.exec = Jvm.exec) {o : Int} {x : Int32} {pn : Nat} (hd : decode c.code pc = .ok (.ifCond .gt o, 3)) (ho : 0 ≤ (pc : Int) + o) (hp : ((pc : Int) + o).toNat = pc') (hn : pc + 3 = pn) (kY : (0 : Int) < x.toInt → Goes p e below F T (mkF m pc' ls st)) (kN : x.toInt ≤ (0 : Int) → Goes p e below F T (mkF m pn ls st)) : Goes p e below F T (mkF m pc ls (.int x :: st)) :=
  gIf X hx hd ho hp hn (fun q => kY (by simpa [ifCond.holds, Int32.lt_iff_toInt_lt, Int32.le_iff_toInt_le] using q)) (fun q => kN (by simpa [ifCond.holds, Int32.lt_iff_toInt_lt, Int32.le_iff_toInt_le] using q))
theorem gIcmpLe (X : Stand p l e R s m args below meth c T locs cells slots) (hx : p.tables.exec = Jvm.exec) {o : Int} {x y : Int32} {pn : Nat} (hd : decode c.code pc = .ok (.if_icmp .le o, 3)) (ho : 0 ≤ (pc : Int) + o) (hp : ((pc : Int) + o).toNat = pc') (hn : pc + 3 = pn) (kY : x.toInt ≤ y.toInt → Goes p e below F T (mkF m pc' ls st)) (kN : y.toInt < x.toInt → Goes p e below F T (mkF m pn ls st)) : Goes p e below F T (mkF m pc ls (.int y :: .int x :: st)) :=
  gIcmp X hx hd ho hp hn (fun q => kY (by simpa [if_icmp.holds, Int32.lt_iff_toInt_lt, Int32.le_iff_toInt_le] using q)) (fun q => kN (by simpa [if_icmp.holds, Int32.lt_iff_toInt_lt, Int32.le_iff_toInt_le] using q))
theorem gIfLe (X : Stand p l e R s m args below meth c T locs cells slots) (hx : p.tables.exec = Jvm.exec) {o : Int} {x : Int32} {pn : Nat} (hd : decode c.code pc = .ok (.ifCond .le o, 3)) (ho : 0 ≤ (pc : Int) + o) (hp : ((pc : Int) + o).toNat = pc') (hn : pc + 3 = pn) (kY : x.toInt ≤ (0 : Int) → Goes p e below F T (mkF m pc' ls st)) (kN : (0 : Int) < x.toInt → Goes p e below F T (mkF m pn ls st)) : Goes p e below F T (mkF m pc ls (.int x :: st)) :=
  gIf X hx hd ho hp hn (fun q => kY (by simpa [ifCond.holds, Int32.lt_iff_toInt_lt, Int32.le_iff_toInt_le] using q)) (fun q => kN (by simpa [ifCond.holds, Int32.lt_iff_toInt_lt, Int32.le_iff_toInt_le] using q))
theorem gIcmpEqT (X : Stand p l e R s m args below meth c T locs cells slots) (hx : p.tables.exec = Jvm.exec) {o : Int} {x y : Int32} {pn : Nat} (hd : decode c.code pc = .ok (.if_icmp .eq o, 3)) (ho : 0 ≤ (pc : Int) + o) (hp : ((pc : Int) + o).toNat = pc') (hn : pc + 3 = pn) (kY : x.toInt = y.toInt → Goes p e below F T (mkF m pc' ls st)) (kN : ¬ x.toInt = y.toInt → Goes p e below F T (mkF m pn ls st)) : Goes p e below F T (mkF m pc ls (.int y :: .int x :: st)) :=
  gIcmpEq X hx hd ho hp hn (fun q => kY ((Int32.toInt_inj (x := x) (y := y)).mpr q)) (fun q => kN (fun z => q ((Int32.toInt_inj (x := x) (y := y)).mp z)))
theorem gIfEqT (X : Stand p l e R s m args below meth c T locs cells slots) (hx : p.tables.exec = Jvm.exec) {o : Int} {x : Int32} {pn : Nat} (hd : decode c.code pc = .ok (.ifCond .eq o, 3)) (ho : 0 ≤ (pc : Int) + o) (hp : ((pc : Int) + o).toNat = pc') (hn : pc + 3 = pn) (kY : x.toInt = (0 : Int) → Goes p e below F T (mkF m pc' ls st)) (kN : ¬ x.toInt = (0 : Int) → Goes p e below F T (mkF m pn ls st)) : Goes p e below F T (mkF m pc ls (.int x :: st)) :=
  gIfEq X hx hd ho hp hn (fun q => kY ((Int32.toInt_inj (x := x) (y := 0)).mpr q)) (fun q => kN (fun z => q ((Int32.toInt_inj (x := x) (y := 0)).mp z)))
theorem gIcmpNeT (X : Stand p l e R s m args below meth c T locs cells slots) (hx : p.tables.exec = Jvm.exec) {o : Int} {x y : Int32} {pn : Nat} (hd : decode c.code pc = .ok (.if_icmp .ne o, 3)) (ho : 0 ≤ (pc : Int) + o) (hp : ((pc : Int) + o).toNat = pc') (hn : pc + 3 = pn) (kY : ¬ x.toInt = y.toInt → Goes p e below F T (mkF m pc' ls st)) (kN : x.toInt = y.toInt → Goes p e below F T (mkF m pn ls st)) : Goes p e below F T (mkF m pc ls (.int y :: .int x :: st)) :=
  gIcmpNe X hx hd ho hp hn (fun q => kY (fun z => q ((Int32.toInt_inj (x := x) (y := y)).mp z))) (fun q => kN ((Int32.toInt_inj (x := x) (y := y)).mpr q))
theorem gIfNeT (X : Stand p l e R s m args below meth c T locs cells slots) (hx : p.tables.exec = Jvm.exec) {o : Int} {x : Int32} {pn : Nat} (hd : decode c.code pc = .ok (.ifCond .ne o, 3)) (ho : 0 ≤ (pc : Int) + o) (hp : ((pc : Int) + o).toNat = pc') (hn : pc + 3 = pn) (kY : ¬ x.toInt = (0 : Int) → Goes p e below F T (mkF m pc' ls st)) (kN : x.toInt = (0 : Int) → Goes p e below F T (mkF m pn ls st)) : Goes p e below F T (mkF m pc ls (.int x :: st)) :=
  gIfNe X hx hd ho hp hn (fun q => kY (fun z => q ((Int32.toInt_inj (x := x) (y := 0)).mp z))) (fun q => kN ((Int32.toInt_inj (x := x) (y := 0)).mpr q))
theorem gAcmp (X : Stand p l e R s m args below meth c T locs cells slots) (hx : p.tables.exec = Jvm.exec) {cd : ClassFile.ACond} {o : Int} {x y : Value} {pn : Nat} (hd : decode c.code pc = .ok (.if_acmp cd o, 3)) (h1 : x.isRef = true) (h2 : y.isRef = true) (ho : 0 ≤ (pc : Int) + o) (hp : ((pc : Int) + o).toNat = pc') (hn : pc + 3 = pn) (kS : x = y → Goes p e below F T (mkF m (match cd with | .eq => pc' | .ne => pn) ls st)) (kD : ¬ x = y → Goes p e below F T (mkF m (match cd with | .eq => pn | .ne => pc') ls st)) : Goes p e below F T (mkF m pc ls (y :: x :: st)) := by
  subst hn hp
  by_cases q : x = y
  · refine Goes.fore (fun _ k => acmp X hx rfl h1 h2 (same := true) rfl hd rfl (decide_eq_true q) ho rfl k) ?_
    have := kS q; cases cd <;> simpa [acV] using this
  · refine Goes.fore (fun _ k => acmp X hx rfl h1 h2 (same := false) rfl hd rfl (decide_eq_false q) ho rfl k) ?_
    have := kD q; cases cd <;> simpa [acV] using this
theorem gAcmpEq (X : Stand p l e R s m args below meth c T locs cells slots) (hx : p.tables.exec = Jvm.exec) {o : Int} {x y : Value} {pn : Nat} (hd : decode c.code pc = .ok (.if_acmp .eq o, 3)) (h1 : x.isRef = true) (h2 : y.isRef = true) (ho : 0 ≤ (pc : Int) + o) (hp : ((pc : Int) + o).toNat = pc') (hn : pc + 3 = pn) (kY : x = y → Goes p e below F T (mkF m pc' ls st)) (kN : ¬ x = y → Goes p e below F T (mkF m pn ls st)) : Goes p e below F T (mkF m pc ls (y :: x :: st)) := gAcmp X hx hd h1 h2 ho hp hn kY kN
theorem gAcmpNe (X : Stand p l e R s m args below meth c T locs cells slots) (hx : p.tables.exec = Jvm.exec) {o : Int} {x y : Value} {pn : Nat} (hd : decode c.code pc = .ok (.if_acmp .ne o, 3)) (h1 : x.isRef = true) (h2 : y.isRef = true) (ho : 0 ≤ (pc : Int) + o) (hp : ((pc : Int) + o).toNat = pc') (hn : pc + 3 = pn) (kY : ¬ x = y → Goes p e below F T (mkF m pc' ls st)) (kN : x = y → Goes p e below F T (mkF m pn ls st)) : Goes p e below F T (mkF m pc ls (y :: x :: st)) := gAcmp X hx hd h1 h2 ho hp hn kN kY
theorem gIfnullZ (X : Stand p l e R s m args below meth c T locs cells slots) (hx : p.tables.exec = Jvm.exec) {o : Int} (hd : decode c.code pc = .ok (.ifnull o, 3)) (ho : 0 ≤ (pc : Int) + o) (hp : ((pc : Int) + o).toNat = pc') (k : Goes p e below F T (mkF m pc' ls st)) : Goes p e below F T (mkF m pc ls (.null :: st)) := Goes.fore (fun _ q => XS.ifnullYes X.here hx rfl rfl hd rfl ho hp q) k
theorem gIfnullR (X : Stand p l e R s m args below meth c T locs cells slots) (hx : p.tables.exec = Jvm.exec) {o : Int} {b : Addr} (hd : decode c.code pc = .ok (.ifnull o, 3)) (hp : pc + 3 = pc') (k : Goes p e below F T (mkF m pc' ls st)) : Goes p e below F T (mkF m pc ls (.ref b :: st)) := by
  subst hp; exact Goes.fore (fun _ q => XS.ifnullNo X.here hx rfl hd rfl q) k
theorem gIfnonnullZ (X : Stand p l e R s m args below meth c T locs cells slots) (hx : p.tables.exec = Jvm.exec) {o : Int} (hd : decode c.code pc = .ok (.ifnonnull o, 3)) (hp : pc + 3 = pc') (k : Goes p e below F T (mkF m pc' ls st)) : Goes p e below F T (mkF m pc ls (.null :: st)) := by
  subst hp; exact Goes.fore (fun _ q => XS.ifnonnullNo X.here hx rfl hd rfl q) k
theorem gIfnonnullR (X : Stand p l e R s m args below meth c T locs cells slots) (hx : p.tables.exec = Jvm.exec) {o : Int} {b : Addr} (hd : decode c.code pc = .ok (.ifnonnull o, 3)) (ho : 0 ≤ (pc : Int) + o) (hp : ((pc : Int) + o).toNat = pc') (k : Goes p e below F T (mkF m pc' ls st)) : Goes p e below F T (mkF m pc ls (.ref b :: st)) := Goes.fore (fun _ q => XS.ifnonnullYes X.here hx rfl rfl hd rfl ho hp q) k
theorem gRet0 {v : Option Value} (X : Stand p l e R s m args below meth c T locs cells slots) (hx : p.tables.exec = Jvm.exec) (hlk : meth.locks = false) (hv : meth.sig.returnType = none → v = none) (hk : cells ≤ kc) (hs : slots ≤ ks) (hq : Q v T.heap locs) {g : JFrame}
    (k : ∀ fs, (∀ (f : JFrame) (acts : List Action), f.method = m → f.locked = none → f.entered = [] → (doReturn e (T.setTop f) acts v).1 = T.setFrames fs) → Steps p.tables e below (T.setTop g) (T.setFrames fs)) : Goes p e below (FinN s kc ks Q) T g := by
  obtain ⟨fs, hr, hrun, hended, hW, hsame⟩ := X.leave hv hlk
  exact ⟨_, _, k fs hr, hrun, hended, _, _, rfl, hq, ⟨_, rfl⟩, hW, hsame.mono hk hs⟩
theorem gRetV (X : Stand p l e R s m args below meth c T locs cells slots) (hx : p.tables.exec = Jvm.exec) (hlk : meth.locks = false) (hret : meth.sig.returnType = none) (hd : decode c.code pc = .ok (.return_, 1)) (hk : cells ≤ kc) (hs : slots ≤ ks) (hq : Q none T.heap locs) : Goes p e below (FinN s kc ks Q) T (mkF m pc ls []) :=
  gRet0 X hx hlk (fun _ => rfl) hk hs hq fun fs hr => X.returnOut hx hret hd hr
theorem gRetN (X : Stand p l e R s m args below meth c T locs cells slots) (hx : p.tables.exec = Jvm.exec) (hlk : meth.locks = false) {t : FieldType} (hret : meth.sig.returnType = some t) (ht : t = .boolean ∨ t = .byte ∨ t = .char ∨ t = .short) {z w : Int32} (hd : decode c.code pc = .ok (.ireturn, 1)) (hw : nar t z = w) (hk : cells ≤ kc) (hs : slots ≤ ks) (hq : Q (some (.int w)) T.heap locs) : Goes p e below (FinN s kc ks Q) T (mkF m pc ls (.int z :: st)) := by
  subst hw
  exact gRet0 X hx hlk (fun h => by rw [hret] at h; cases h) hk hs hq fun fs hr => retN X hx hret ht hd hr
theorem gRetI (X : Stand p l e R s m args below meth c T locs cells slots) (hx : p.tables.exec = Jvm.exec) (hlk : meth.locks = false) (hret : meth.sig.returnType = some .int) {z : Int32} (hd : decode c.code pc = .ok (.ireturn, 1)) (hk : cells ≤ kc) (hs : slots ≤ ks) (hq : Q (some (.int z)) T.heap locs) : Goes p e below (FinN s kc ks Q) T (mkF m pc ls (.int z :: st)) :=
  gRet0 X hx hlk (fun h => by rw [hret] at h; cases h) hk hs hq fun fs hr => retOut X hx hret rfl (Or.inl ⟨rfl, Or.inl rfl, z, rfl⟩) hd hr
theorem gRetJ (X : Stand p l e R s m args below meth c T locs cells slots) (hx : p.tables.exec = Jvm.exec) (hlk : meth.locks = false) (hret : meth.sig.returnType = some .long) {z : Int64} (hd : decode c.code pc = .ok (.lreturn, 1)) (hk : cells ≤ kc) (hs : slots ≤ ks) (hq : Q (some (.long z)) T.heap locs) : Goes p e below (FinN s kc ks Q) T (mkF m pc ls (.long z :: st)) :=
  gRet0 X hx hlk (fun h => by rw [hret] at h; cases h) hk hs hq fun fs hr => retOut X hx hret rfl (Or.inr (Or.inl ⟨rfl, rfl, z, rfl⟩)) hd hr
theorem gRetA (X : Stand p l e R s m args below meth c T locs cells slots) (hx : p.tables.exec = Jvm.exec) (hlk : meth.locks = false) {t : FieldType} (hret : meth.sig.returnType = some t) (ht : t.isReference = true) {v : Value} (hv : v.isRef = true) (hd : decode c.code pc = .ok (.areturn, 1)) (hk : cells ≤ kc) (hs : slots ≤ ks) (hq : Q (some v) T.heap locs) : Goes p e below (FinN s kc ks Q) T (mkF m pc ls (v :: st)) :=
  gRet0 X hx hlk (fun h => by rw [hret] at h; cases h) hk hs hq fun fs hr => retOut X hx hret (by cases t <;> first | rfl | cases ht) (Or.inr (Or.inr (Or.inr (Or.inr ⟨rfl, ht, hv⟩)))) hd hr
theorem gGetS (X : Stand p l e R s m args below meth c T locs cells slots) (hx : p.tables.exec = Jvm.exec) (hZ : Z.Warmed39 s.vm) {own R0 O n d : String} {i : Nat} (hown : s.vm.findClass own = some m.cls) (w : (Jvm.Cond.fieldLink own i R0 n d).before a0 Z = true) (via : Via Z R0 O n d) (eT : T.heap = h) {v : Value} (Fa : Sta Z h O n d v) (hd : decode c.code pc = .ok (.getstatic i, 3)) (hp : pc + 3 = pc')
    (k : ∀ T', Stand p l e R s m args below meth c T' locs cells slots → T'.heap = h → Goes p e below F T' (mkF m pc' ls (v :: st))) : Goes p e below F T (mkF m pc ls st) := by
  subst hp
  obtain ⟨T', X', e', st'⟩ := getS X hx hZ (host := "") hown w via eT Fa (g := mkF m pc ls st) rfl hd
  exact Goes.fore st' (k T' X' e')
theorem gGetF (X : Stand p l e R s m args below meth c T locs cells slots) (hx : p.tables.exec = Jvm.exec) (hZ : Z.Warmed39 s.vm) {own R0 O n d : String} {i : Nat} (hown : s.vm.findClass own = some m.cls) (w : (Jvm.Cond.fieldLink own i R0 n d).before a0 Z = true) (via : Via Z R0 O n d) (eT : T.heap = h) {a : Addr} {v : Value} (Fa : Fld Z h a O n d v) (hd : decode c.code pc = .ok (.getfield i, 3)) (hp : pc + 3 = pc')
    (k : ∀ T', Stand p l e R s m args below meth c T' locs cells slots → T'.heap = h → Goes p e below F T' (mkF m pc' ls (v :: st))) : Goes p e below F T (mkF m pc ls (.ref a :: st)) := by
  subst hp
  obtain ⟨T', X', e', st'⟩ := getF X hx hZ (host := "") hown (Or.inl w) via eT Fa (g := mkF m pc ls (.ref a :: st)) rfl rfl hd
  exact Goes.fore st' (k T' X' e')
theorem gCallS (X : Stand p l e R s m args below meth c T locs cells slots) (hx : p.tables.exec = Jvm.exec) (hZ : Z.Warmed39 s.vm) {y : MethodName} {bytes : ByteArray} {maxL : Nat} {ret : Option FieldType} {rm : Room} {own : String} {i : Nat} {Qc : Option Value → Heap → List Loc → Prop} (hown : s.vm.findClass own = some m.cls) (eT : T.heap = h) (hml : ls.size = c.maxLocals)
    (w1 : (Jvm.Cond.methodLink own i y).before a0 Z = true) (w2 : (Jvm.Cond.static y).before a0 Z = true) (w3 : (Jvm.Cond.initialized y.cls).before a0 Z = true) (w4 : (Jvm.Cond.code y bytes maxL ret).before a0 Z = true) (hy : y.cls ≠ "java/lang/invoke/MethodHandle" ∧ y.cls ≠ "java/lang/invoke/VarHandle")
    {argsL : List Value} {stk : List Value} (hC : Ctr l Z y bytes maxL ret [] rm argsL.toArray h Qc) (hlen : ∀ sig, parseMethodDescriptor y.desc = some sig → argsL.length = sig.parameters.length) (hd : decode c.code pc = .ok (.invokestatic i, 3)) (hp : pc + 3 = pc') (hst : stk = argsL.reverse ++ st)
    (hf : rm.frames + 1 ≤ R.frames) {W : Nat} (hW : (st.map fun v => v.category).sum ≤ W) (hlo : W + (maxL + 11) + rm.locals ≤ R.locals) (hce : cells + rm.cells ≤ R.cells) (hsl : slots + rm.slots ≤ R.slots)
    (k : ∀ T' v L, Stand p l e R s m args below meth c T' (locs ++ L) (cells + rm.cells) (slots + rm.slots) → Qc v T'.heap L → Goes p e below F T' (mkF m pc' ls (v.toList ++ st))) : Goes p e below F T (mkF m pc ls stk) := by
  subst hp hst
  obtain ⟨v, _, ⟨T', L', k', n'⟩, -, X', ⟨Lc, hQ, l1, y1, z1⟩, st'⟩ := Jvm.LawKit.callS X hx (y := y) hown (mvT hZ w1) (mvT hZ w2) (mvT hZ w3) (mvT hZ w4) hy (backOf (W := W) hC hZ w4 w3 hf hlo) (g := mkF m pc ls (argsL.reverse ++ st)) rfl hml (argsL := argsL) (rest := st) hlen rfl (by show 2 * 0 + _ ≤ _; omega) hd (fun _ _ => ⟨rfl, eT, hce, hsl⟩)
  dsimp only [Pt.U, Pt.locs, Pt.cells, Pt.slots] at X' l1 y1 z1 st' hQ
  subst l1 y1 z1
  exact Goes.fore st' (k T' v Lc X' hQ)
theorem gCallSJ (X : Stand p l e R s m args below meth c T locs cells slots) (hx : p.tables.exec = Jvm.exec) (hZ : Z.Warmed39 s.vm) {y : MethodName} {bytes : ByteArray} {maxL : Nat} {ret : Option FieldType} {rm : Room} {own : String} {i : Nat} {w : Value} (hown : s.vm.findClass own = some m.cls) (eT : T.heap = h) (hml : ls.size = c.maxLocals)
    (w1 : (Jvm.Cond.methodLink own i y).before a0 Z = true) (w2 : (Jvm.Cond.static y).before a0 Z = true) (w3 : (Jvm.Cond.initialized y.cls).before a0 Z = true) (w4 : (Jvm.Cond.code y bytes maxL ret).before a0 Z = true) (hy : y.cls ≠ "java/lang/invoke/MethodHandle" ∧ y.cls ≠ "java/lang/invoke/VarHandle")
    {argsL : List Value} {stk : List Value} (hC : Ctr l Z y bytes maxL ret [] rm argsL.toArray h (Just h w)) (hlen : ∀ sig, parseMethodDescriptor y.desc = some sig → argsL.length = sig.parameters.length) (hd : decode c.code pc = .ok (.invokestatic i, 3)) (hp : pc + 3 = pc') (hst : stk = argsL.reverse ++ st)
    (h0c : rm.cells = 0) (h0s : rm.slots = 0) (hf : rm.frames + 1 ≤ R.frames) {W : Nat} (hW : (st.map fun v => v.category).sum ≤ W) (hlo : W + (maxL + 11) + rm.locals ≤ R.locals) (hce : cells + rm.cells ≤ R.cells) (hsl : slots + rm.slots ≤ R.slots)
    (k : ∀ T', Stand p l e R s m args below meth c T' locs cells slots → T'.heap = h → Goes p e below F T' (mkF m pc' ls (w :: st))) : Goes p e below F T (mkF m pc ls stk) := by
  refine gCallS X hx hZ hown eT hml w1 w2 w3 w4 hy hC hlen hd hp hst hf hW hlo hce hsl ?_
  rintro T' v L X' ⟨rfl, e', rfl⟩
  rw [List.append_nil, h0c, h0s] at X'
  exact k T' X' e'
theorem gCallV (X : Stand p l e R s m args below meth c T locs cells slots) (hx : p.tables.exec = Jvm.exec) (hZ : Z.Warmed39 s.vm) {y : MethodName} {bytes : ByteArray} {maxL : Nat} {ret : Option FieldType} {rm : Room} {own : String} {i : Nat} {Qc : Option Value → Heap → List Loc → Prop} {C : String} {a : Addr} (hown : s.vm.findClass own = some m.cls) (eT : T.heap = h) (hml : ls.size = c.maxLocals) (E : Exa Z h a C)
    (w1 : (Jvm.Cond.methodLink own i y).before a0 Z = true) (w2 : (Jvm.Cond.declares y).before a0 Z = true) (w5 : (Jvm.Cond.selects C y y).before a0 Z = true) (w6 : (Jvm.Cond.instanceMethod y).before a0 Z = true) (w3 : (Jvm.Cond.initialized y.cls).before a0 Z = true) (w4 : (Jvm.Cond.code y bytes maxL ret).before a0 Z = true) (hy : y.cls ≠ "java/lang/invoke/MethodHandle" ∧ y.cls ≠ "java/lang/invoke/VarHandle")
    {argsL : List Value} {stk : List Value} (hC : Ctr l Z y bytes maxL ret [] rm (.ref a :: argsL).toArray h Qc) (hlen : ∀ sig, parseMethodDescriptor y.desc = some sig → argsL.length = sig.parameters.length) (hd : decode c.code pc = .ok (.invokevirtual i, 3)) (hp : pc + 3 = pc') (hst : stk = argsL.reverse ++ .ref a :: st)
    (hf : rm.frames + 1 ≤ R.frames) {W : Nat} (hW : (st.map fun v => v.category).sum ≤ W) (hlo : W + (maxL + 11) + rm.locals ≤ R.locals) (hce : cells + rm.cells ≤ R.cells) (hsl : slots + rm.slots ≤ R.slots)
    (k : ∀ T' v L, Stand p l e R s m args below meth c T' (locs ++ L) (cells + rm.cells) (slots + rm.slots) → Qc v T'.heap L → Goes p e below F T' (mkF m pc' ls (v.toList ++ st))) : Goes p e below F T (mkF m pc ls stk) := by
  subst hp hst
  obtain ⟨cq, kq, qa, qb, qc⟩ := isOf hZ eT E
  obtain ⟨v, _, ⟨T', L', k', n'⟩, -, X', ⟨Lc, hQ, l1, y1, z1⟩, st'⟩ := X.virtualBack hx (y := y) (z := y) hown (mvT hZ w1) (mvT hZ w2) (notFace_of_selects (args := #[]) (mvT hZ w5)) (mvT hZ w5) (mvT hZ w6) hy (backOf (W := W) hC hZ w4 w3 hf hlo) qa qc (g := mkF m pc ls (argsL.reverse ++ .ref a :: st)) rfl hml (Steps.refl _) (argsL := argsL) (rest := st) hlen rfl (by show 2 * 0 + _ ≤ _; omega) hd (fun _ _ => ⟨rfl, eT, hce, hsl⟩)
  dsimp only [Pt.U, Pt.locs, Pt.cells, Pt.slots] at X' l1 y1 z1 st' hQ
  subst l1 y1 z1
  exact Goes.tr st' (k T' v Lc X' hQ)
theorem gCallVJ (X : Stand p l e R s m args below meth c T locs cells slots) (hx : p.tables.exec = Jvm.exec) (hZ : Z.Warmed39 s.vm) {y : MethodName} {bytes : ByteArray} {maxL : Nat} {ret : Option FieldType} {rm : Room} {own : String} {i : Nat} {w : Value} {C : String} {a : Addr} (hown : s.vm.findClass own = some m.cls) (eT : T.heap = h) (hml : ls.size = c.maxLocals) (E : Exa Z h a C)
    (w1 : (Jvm.Cond.methodLink own i y).before a0 Z = true) (w2 : (Jvm.Cond.declares y).before a0 Z = true) (w5 : (Jvm.Cond.selects C y y).before a0 Z = true) (w6 : (Jvm.Cond.instanceMethod y).before a0 Z = true) (w3 : (Jvm.Cond.initialized y.cls).before a0 Z = true) (w4 : (Jvm.Cond.code y bytes maxL ret).before a0 Z = true) (hy : y.cls ≠ "java/lang/invoke/MethodHandle" ∧ y.cls ≠ "java/lang/invoke/VarHandle")
    {argsL : List Value} {stk : List Value} (hC : Ctr l Z y bytes maxL ret [] rm (.ref a :: argsL).toArray h (Just h w)) (hlen : ∀ sig, parseMethodDescriptor y.desc = some sig → argsL.length = sig.parameters.length) (hd : decode c.code pc = .ok (.invokevirtual i, 3)) (hp : pc + 3 = pc') (hst : stk = argsL.reverse ++ .ref a :: st)
    (h0c : rm.cells = 0) (h0s : rm.slots = 0) (hf : rm.frames + 1 ≤ R.frames) {W : Nat} (hW : (st.map fun v => v.category).sum ≤ W) (hlo : W + (maxL + 11) + rm.locals ≤ R.locals) (hce : cells + rm.cells ≤ R.cells) (hsl : slots + rm.slots ≤ R.slots)
    (k : ∀ T', Stand p l e R s m args below meth c T' locs cells slots → T'.heap = h → Goes p e below F T' (mkF m pc' ls (w :: st))) : Goes p e below F T (mkF m pc ls stk) := by
  refine gCallV X hx hZ hown eT hml E w1 w2 w5 w6 w3 w4 hy hC hlen hd hp hst hf hW hlo hce hsl ?_
  rintro T' v L X' ⟨rfl, e', rfl⟩
  rw [List.append_nil, h0c, h0s] at X'
  exact k T' X' e'
theorem gLIfEq (X : Stand p l e R s m args below meth c T locs cells slots) (hx : p.tables.exec = Jvm.exec) {o : Int} {x y : Int64} {pn : Nat} (hd : decode c.code pc = .ok (.ifCond .eq o, 3)) (ho : 0 ≤ (pc : Int) + o) (hp : ((pc : Int) + o).toNat = pc') (hn : pc + 3 = pn) (kY : x = y → Goes p e below F T (mkF m pc' ls st)) (kN : ¬ x = y → Goes p e below F T (mkF m pn ls st)) : Goes p e below F T (mkF m pc ls (.int (lcmpW x y) :: st)) := by
  have z := lw_eq x y
  refine gIf X hx hd ho hp hn (fun q => kY ?_) (fun q => kN ?_) <;> simp only [ifCond.holds, decide_eq_true_eq, decide_eq_false_iff_not, beq_iff_eq, bne_iff_ne, Int32.not_lt, Int32.not_le, Int32.lt_iff_toInt_lt, Int32.le_iff_toInt_le, Int64.lt_iff_toInt_lt, ← Int32.toInt_inj, beq_eq_false_iff_ne, bne_eq_false_iff_eq, ne_eq] at q z ⊢ <;> first | exact z.mp q | exact fun k => q (z.mpr k) | omega
theorem gLIfNe (X : Stand p l e R s m args below meth c T locs cells slots) (hx : p.tables.exec = Jvm.exec) {o : Int} {x y : Int64} {pn : Nat} (hd : decode c.code pc = .ok (.ifCond .ne o, 3)) (ho : 0 ≤ (pc : Int) + o) (hp : ((pc : Int) + o).toNat = pc') (hn : pc + 3 = pn) (kY : ¬ x = y → Goes p e below F T (mkF m pc' ls st)) (kN : x = y → Goes p e below F T (mkF m pn ls st)) : Goes p e below F T (mkF m pc ls (.int (lcmpW x y) :: st)) := by
  have z := lw_eq x y
  refine gIf X hx hd ho hp hn (fun q => kY ?_) (fun q => kN ?_) <;> simp only [ifCond.holds, decide_eq_true_eq, decide_eq_false_iff_not, beq_iff_eq, bne_iff_ne, Int32.not_lt, Int32.not_le, Int32.lt_iff_toInt_lt, Int32.le_iff_toInt_le, Int64.lt_iff_toInt_lt, ← Int32.toInt_inj, beq_eq_false_iff_ne, bne_eq_false_iff_eq, ne_eq] at q z ⊢ <;> first | exact z.mp q | exact fun k => q (z.mpr k) | omega
theorem gLIfLt (X : Stand p l e R s m args below meth c T locs cells slots) (hx : p.tables.exec = Jvm.exec) {o : Int} {x y : Int64} {pn : Nat} (hd : decode c.code pc = .ok (.ifCond .lt o, 3)) (ho : 0 ≤ (pc : Int) + o) (hp : ((pc : Int) + o).toNat = pc') (hn : pc + 3 = pn) (kY : x.toInt < y.toInt → Goes p e below F T (mkF m pc' ls st)) (kN : y.toInt ≤ x.toInt → Goes p e below F T (mkF m pn ls st)) : Goes p e below F T (mkF m pc ls (.int (lcmpW x y) :: st)) := by
  have z := lw_lt x y
  refine gIf X hx hd ho hp hn (fun q => kY ?_) (fun q => kN ?_) <;> simp only [ifCond.holds, decide_eq_true_eq, decide_eq_false_iff_not, beq_iff_eq, bne_iff_ne, Int32.not_lt, Int32.not_le, Int32.lt_iff_toInt_lt, Int32.le_iff_toInt_le, Int64.lt_iff_toInt_lt, ← Int32.toInt_inj, beq_eq_false_iff_ne, bne_eq_false_iff_eq, ne_eq] at q z ⊢ <;> first | exact z.mp q | exact fun k => q (z.mpr k) | omega
theorem gLIfGe (X : Stand p l e R s m args below meth c T locs cells slots) (hx : p.tables.exec = Jvm.exec) {o : Int} {x y : Int64} {pn : Nat} (hd : decode c.code pc = .ok (.ifCond .ge o, 3)) (ho : 0 ≤ (pc : Int) + o) (hp : ((pc : Int) + o).toNat = pc') (hn : pc + 3 = pn) (kY : y.toInt ≤ x.toInt → Goes p e below F T (mkF m pc' ls st)) (kN : x.toInt < y.toInt → Goes p e below F T (mkF m pn ls st)) : Goes p e below F T (mkF m pc ls (.int (lcmpW x y) :: st)) := by
  have z := lw_lt x y
  refine gIf X hx hd ho hp hn (fun q => kY ?_) (fun q => kN ?_) <;> simp only [ifCond.holds, decide_eq_true_eq, decide_eq_false_iff_not, beq_iff_eq, bne_iff_ne, Int32.not_lt, Int32.not_le, Int32.lt_iff_toInt_lt, Int32.le_iff_toInt_le, Int64.lt_iff_toInt_lt, ← Int32.toInt_inj, beq_eq_false_iff_ne, bne_eq_false_iff_eq, ne_eq] at q z ⊢ <;> first | exact z.mp q | exact fun k => q (z.mpr k) | omega
theorem gLIfGt (X : Stand p l e R s m args below meth c T locs cells slots) (hx : p.tables.exec = Jvm.exec) {o : Int} {x y : Int64} {pn : Nat} (hd : decode c.code pc = .ok (.ifCond .gt o, 3)) (ho : 0 ≤ (pc : Int) + o) (hp : ((pc : Int) + o).toNat = pc') (hn : pc + 3 = pn) (kY : y.toInt < x.toInt → Goes p e below F T (mkF m pc' ls st)) (kN : x.toInt ≤ y.toInt → Goes p e below F T (mkF m pn ls st)) : Goes p e below F T (mkF m pc ls (.int (lcmpW x y) :: st)) := by
  have z := lw_gt x y
  refine gIf X hx hd ho hp hn (fun q => kY ?_) (fun q => kN ?_) <;> simp only [ifCond.holds, decide_eq_true_eq, decide_eq_false_iff_not, beq_iff_eq, bne_iff_ne, Int32.not_lt, Int32.not_le, Int32.lt_iff_toInt_lt, Int32.le_iff_toInt_le, Int64.lt_iff_toInt_lt, ← Int32.toInt_inj, beq_eq_false_iff_ne, bne_eq_false_iff_eq, ne_eq] at q z ⊢ <;> first | exact z.mp q | exact fun k => q (z.mpr k) | omega
theorem gLIfLe (X : Stand p l e R s m args below meth c T locs cells slots) (hx : p.tables.exec = Jvm.exec) {o : Int} {x y : Int64} {pn : Nat} (hd : decode c.code pc = .ok (.ifCond .le o, 3)) (ho : 0 ≤ (pc : Int) + o) (hp : ((pc : Int) + o).toNat = pc') (hn : pc + 3 = pn) (kY : x.toInt ≤ y.toInt → Goes p e below F T (mkF m pc' ls st)) (kN : y.toInt < x.toInt → Goes p e below F T (mkF m pn ls st)) : Goes p e below F T (mkF m pc ls (.int (lcmpW x y) :: st)) := by
  have z := lw_gt x y
  refine gIf X hx hd ho hp hn (fun q => kY ?_) (fun q => kN ?_) <;> simp only [ifCond.holds, decide_eq_true_eq, decide_eq_false_iff_not, beq_iff_eq, bne_iff_ne, Int32.not_lt, Int32.not_le, Int32.lt_iff_toInt_lt, Int32.le_iff_toInt_le, Int64.lt_iff_toInt_lt, ← Int32.toInt_inj, beq_eq_false_iff_ne, bne_eq_false_iff_eq, ne_eq] at q z ⊢ <;> first | exact z.mp q | exact fun k => q (z.mpr k) | omega
theorem gNew (X : Stand p l e R s m args below meth c T locs cells slots) (hx : p.tables.exec = Jvm.exec) (hZ : Z.Warmed39 s.vm) {own C : String} {i n : Nat} (hown : s.vm.findClass own = some m.cls) (w : (Jvm.Cond.classLink own i C).before a0 Z = true) (wi : (Jvm.Cond.instantiable C n).before a0 Z = true) (wz : (Jvm.Cond.initialized C).before a0 Z = true) (eT : T.heap = h) (hd : decode c.code pc = .ok (.new i, 3)) (hp : pc + 3 = pc') (hc : cells + 1 ≤ R.cells) (hl : slots + n ≤ R.slots)
    (k : ∀ T' h' b, Stand p l e R s m args below meth c T' locs (cells + 1) (slots + n) → T'.heap = h' → b = h.size → Ext h h' → Exa Z h' b C → (∀ {O nm d : String} {ty : FieldType}, Laid Z a0 C O nm d → parseFieldDescriptor d = some ty → Fld Z h' b O nm d (defaultValue ty)) → Goes p e below F T' (mkF m pc' ls (.ref b :: st))) : Goes p e below F T (mkF m pc ls st) := by
  subst hp
  obtain ⟨T', h', X', e', E, A, D, -, st'⟩ := newO X hx hZ hown w wi wz eT (g := mkF m pc ls st) rfl hd hc hl
  exact Goes.fore st' (k T' h' _ X' e' rfl E A D)
theorem gPutF (X : Stand p l e R s m args below meth c T locs cells slots) (hx : p.tables.exec = Jvm.exec) (hZ : Z.Warmed39 s.vm) {own R0 O n d C : String} {i kk : Nat} {ty : FieldType} (hown : s.vm.findClass own = some m.cls) (w : (Jvm.Cond.fieldLink own i R0 n d).before a0 Z = true) (via : Via Z R0 O n d) (eT : T.heap = h) {a : Addr} {v old : Value} (Fa : Fld Z h a O n d old) (E : Exa Z h a C) (L : (Jvm.Cond.lays C O n d).before a0 Z = true ∨ ((Jvm.Cond.laysFinal C O n d).before a0 Z = true ∧ own = O ∧ meth.name = "<init>")) (wi : (Jvm.Cond.instantiable C kk).before a0 Z = true)
    (hty : parseFieldDescriptor d = some ty) (hn : narrow ty v = v) (hf : fits ty v = true) (hd : decode c.code pc = .ok (.putfield i, 3)) (hp : pc + 3 = pc')
    (k : ∀ T' h', Stand p l e R s m args below meth c T' (locs ++ [⟨a, RoadKit.slotOf Z O n d⟩]) cells slots → T'.heap = h' → Wr h h' a (RoadKit.slotOf Z O n d) v → Goes p e below F T' (mkF m pc' ls st)) : Goes p e below F T (mkF m pc ls (v :: .ref a :: st)) := by
  subst hp
  obtain ⟨T', h', X', e', W, st'⟩ := putF X hx hZ (host := "") hown (Or.inl w) via eT Fa E L wi hty hn hf (g := mkF m pc ls (v :: .ref a :: st)) rfl rfl hd
  exact Goes.fore st' (k T' h' X' e' W)
theorem gInitO (X : Stand p l e R s m args below meth c T locs cells slots) (hx : p.tables.exec = Jvm.exec) (hZ : Z.Warmed39 s.vm) {own : String} {i : Nat} (hown : s.vm.findClass own = some m.cls) (w1 : (Jvm.Cond.methodLink own i Lib.objectInit).before a0 Z = true) (w2 : (Jvm.Cond.instanceMethod Lib.objectInit).before a0 Z = true) (w3 : (Jvm.Cond.code Lib.objectInit ⟨#[0xb1]⟩ 1 none).before a0 Z = true) (eT : T.heap = h) (hml : ls.size = c.maxLocals) {a : Addr} (hd : decode c.code pc = .ok (.invokespecial i, 3)) (hp : pc + 3 = pc') (hf : 1 ≤ R.frames) {W : Nat} (hW : (st.map fun v => v.category).sum ≤ W) (hl : W + 12 ≤ R.locals)
    (k : ∀ T', Stand p l e R s m args below meth c T' locs cells slots → T'.heap = h → Goes p e below F T' (mkF m pc' ls st)) : Goes p e below F T (mkF m pc ls (.ref a :: st)) := by
  subst hp
  obtain ⟨T', X', e', st'⟩ := initO X hx hZ hown w1 w2 w3 eT (g := mkF m pc ls (.ref a :: st)) rfl hml rfl hd hf (W := W) (by show 2 * 0 + _ ≤ _; omega) hl
  exact Goes.fore st' (k T' X' e')
theorem gCallI (X : Stand p l e R s m args below meth c T locs cells slots) (hx : p.tables.exec = Jvm.exec) (hZ : Z.Warmed39 s.vm) {y : MethodName} {bytes : ByteArray} {maxL : Nat} {rm : Room} {own : String} {i : Nat} {Qc : Option Value → Heap → List Loc → Prop} {a : Addr} (hy1 : y.name = "<init>") (hown : s.vm.findClass own = some m.cls) (eT : T.heap = h) (hml : ls.size = c.maxLocals)
    (w1 : (Jvm.Cond.methodLink own i y).before a0 Z = true) (w2 : (Jvm.Cond.instanceMethod y).before a0 Z = true) (w3 : (Jvm.Cond.initialized y.cls).before a0 Z = true) (w4 : (Jvm.Cond.code y bytes maxL none).before a0 Z = true) (hy : y.cls ≠ "java/lang/invoke/MethodHandle" ∧ y.cls ≠ "java/lang/invoke/VarHandle")
    {argsL : List Value} {stk : List Value} (hC : Ctr l Z y bytes maxL none [] rm (.ref a :: argsL).toArray h Qc) (hlen : ∀ sig, parseMethodDescriptor y.desc = some sig → argsL.length = sig.parameters.length) (hd : decode c.code pc = .ok (.invokespecial i, 3)) (hp : pc + 3 = pc') (hst : stk = argsL.reverse ++ .ref a :: st)
    (hf : rm.frames + 1 ≤ R.frames) {W : Nat} (hW : (st.map fun v => v.category).sum ≤ W) (hlo : W + (maxL + 11) + rm.locals ≤ R.locals) (hce : cells + rm.cells ≤ R.cells) (hsl : slots + rm.slots ≤ R.slots)
    (k : ∀ T' v L, Stand p l e R s m args below meth c T' (locs ++ L) (cells + rm.cells) (slots + rm.slots) → Qc v T'.heap L → Goes p e below F T' (mkF m pc' ls (v.toList ++ st))) : Goes p e below F T (mkF m pc ls stk) := by
  subst hp hst
  obtain ⟨v, _, ⟨T', L', k', n'⟩, -, X', ⟨Lc, hQ, l1, y1, z1⟩, st'⟩ := X.specialBack hx (y := y) hy1 hown (mvT hZ w1) (mvT hZ w2) (mvT hZ w4) hy (backOf (W := W) hC hZ w4 w3 hf hlo) (g := mkF m pc ls (argsL.reverse ++ .ref a :: st)) rfl hml (Steps.refl _) (a := a) (argsL := argsL) (rest := st) hlen rfl (by show 2 * 0 + _ ≤ _; omega) hd (fun _ _ => ⟨rfl, eT, hce, hsl⟩)
  dsimp only [Pt.U, Pt.locs, Pt.cells, Pt.slots] at X' l1 y1 z1 st' hQ
  subst l1 y1 z1
  exact Goes.tr st' (k T' v Lc X' hQ)
end OwnLayer
/-- a boolean as the machine holds it -/
def b2i (b : Bool) : Int32 := if b then 1 else 0
theorem b2_t {P : Prop} [Decidable P] (h : P) : b2i (decide P) = 1 := by simp [b2i, h]
theorem b2_f {P : Prop} [Decidable P] (h : ¬ P) : b2i (decide P) = 0 := by simp [b2i, h]
theorem b2_0 {b : Bool} : b2i b = 0 ↔ b = false := by cases b <;> simp [b2i]
theorem b2_n0 {b : Bool} : ¬ b2i b = 0 ↔ b = true := by cases b <;> simp [b2i]
theorem b2_inj {a b : Bool} : b2i a = b2i b ↔ a = b := by cases a <;> cases b <;> simp [b2i]
theorem b2_nar {b : Bool} : nar .boolean (b2i b) = b2i b := by cases b <;> rfl
theorem just_t {h0 h : Heap} {P : Prop} [Decidable P] (q : P) (e : h = h0) : Just h0 (.int (b2i (decide P))) (some (.int 1)) h [] := ⟨by rw [b2_t q], e, rfl⟩
theorem just_f {h0 h : Heap} {P : Prop} [Decidable P] (q : ¬ P) (e : h = h0) : Just h0 (.int (b2i (decide P))) (some (.int 0)) h [] := ⟨by rw [b2_f q], e, rfl⟩
/-- the law returns 1; what it wrote is new -/
def Law1 (h0 : Heap) (v : Option Value) (h : Heap) (L : List Loc) : Prop := v = some (.int 1) ∧ Fr h0.size L
section OwnArrays
variable {p : Program} {l : Launch} {e : Env} {R : Room} {s : State} {m : MethodId} {args : Array Value} {below : List Frame} {meth : Method} {c : Code} {T : State} {locs : List Loc} {cells slots : Nat}
variable {F : State → Outcome → Prop} {pc pc' : Nat} {ls : Array Slot} {st : List Value} {Z : State} {a0 : Array Value} {h : Heap} {a : Addr} {ck : ClassId} {n j : Int32} {vs : List Value} {dv : Value}
theorem gIaload (X : Stand p l e R s m args below meth c T locs cells slots) (hx : p.tables.exec = Jvm.exec) (hZ : Z.Warmed39 s.vm) (eT : T.heap = h) {v : Value} (A : Arv Z h a ck .int n vs dv) (h0 : ¬ j < 0) (h1 : j < n) (hv : vs.getD j.toNatClampNeg dv = v) (hd : decode c.code pc = .ok (.iaload, 1)) (hp : pc + 1 = pc') (k : Goes p e below F T (mkF m pc' ls (v :: st))) : Goes p e below F T (mkF m pc ls (.int j :: .ref a :: st)) := by
  subst hp
  obtain ⟨cl, Ar, q, S, N, H, _⟩ := A
  have hin := inb_of S ⟨h0, h1⟩
  exact Goes.fore (fun t q => X.iaload hx (j := j) (v := v) (by rw [eT]; exact Ar.1) (State.isArrayOf_alike hZ.alike Ar.2.1) Ar.2.2 hin (Has.at H hin hv) (g := mkF m pc ls (.int j :: .ref a :: st)) rfl rfl hd t q) k
theorem gCaload (X : Stand p l e R s m args below meth c T locs cells slots) (hx : p.tables.exec = Jvm.exec) (hZ : Z.Warmed39 s.vm) (eT : T.heap = h) {v : Value} (A : Arv Z h a ck .char n vs dv) (h0 : ¬ j < 0) (h1 : j < n) (hv : vs.getD j.toNatClampNeg dv = v) (hd : decode c.code pc = .ok (.caload, 1)) (hp : pc + 1 = pc') (k : Goes p e below F T (mkF m pc' ls (v :: st))) : Goes p e below F T (mkF m pc ls (.int j :: .ref a :: st)) := by
  subst hp
  obtain ⟨cl, Ar, q, S, N, H, _⟩ := A
  have hin := inb_of S ⟨h0, h1⟩
  exact Goes.fore (fun t q => X.caload hx (j := j) (v := v) (by rw [eT]; exact Ar.1) (State.isArrayOf_alike hZ.alike Ar.2.1) Ar.2.2 hin (Has.at H hin hv) (g := mkF m pc ls (.int j :: .ref a :: st)) rfl rfl hd t q) k
theorem gLaload (X : Stand p l e R s m args below meth c T locs cells slots) (hx : p.tables.exec = Jvm.exec) (hZ : Z.Warmed39 s.vm) (eT : T.heap = h) {v : Value} (A : Arv Z h a ck .long n vs dv) (h0 : ¬ j < 0) (h1 : j < n) (hv : vs.getD j.toNatClampNeg dv = v) (hd : decode c.code pc = .ok (.laload, 1)) (hp : pc + 1 = pc') (k : Goes p e below F T (mkF m pc' ls (v :: st))) : Goes p e below F T (mkF m pc ls (.int j :: .ref a :: st)) := by
  subst hp
  obtain ⟨cl, Ar, q, S, N, H, _⟩ := A
  have hin := inb_of S ⟨h0, h1⟩
  exact Goes.fore (fun t q => X.laload hx (j := j) (v := v) (by rw [eT]; exact Ar.1) (State.isArrayOf_alike hZ.alike Ar.2.1) Ar.2.2 hin (Has.at H hin hv) (g := mkF m pc ls (.int j :: .ref a :: st)) rfl rfl hd t q) k
theorem gBaload (X : Stand p l e R s m args below meth c T locs cells slots) (hx : p.tables.exec = Jvm.exec) (hZ : Z.Warmed39 s.vm) (eT : T.heap = h) {v : Value} (A : Arv Z h a ck .byte n vs dv) (h0 : ¬ j < 0) (h1 : j < n) (hv : vs.getD j.toNatClampNeg dv = v) (hd : decode c.code pc = .ok (.baload, 1)) (hp : pc + 1 = pc') (k : Goes p e below F T (mkF m pc' ls (v :: st))) : Goes p e below F T (mkF m pc ls (.int j :: .ref a :: st)) := by
  subst hp
  obtain ⟨cl, Ar, q, S, N, H, _⟩ := A
  have hin := inb_of S ⟨h0, h1⟩
  exact Goes.fore (fun t q => X.baloadBytes hx (j := j) (v := v) (by rw [eT]; exact Ar.1) (State.isArrayOf_alike hZ.alike Ar.2.1) Ar.2.2 hin (Has.at H hin hv) (g := mkF m pc ls (.int j :: .ref a :: st)) rfl rfl hd t q) k
theorem gAaload (X : Stand p l e R s m args below meth c T locs cells slots) (hx : p.tables.exec = Jvm.exec) (hZ : Z.Warmed39 s.vm) (eT : T.heap = h) {v : Value} {ty : FieldType} (hty : ty.isReference = true) (A : Arv Z h a ck ty n vs dv) (h0 : ¬ j < 0) (h1 : j < n) (hv : vs.getD j.toNatClampNeg dv = v) (hd : decode c.code pc = .ok (.aaload, 1)) (hp : pc + 1 = pc') (k : Goes p e below F T (mkF m pc' ls (v :: st))) : Goes p e below F T (mkF m pc ls (.int j :: .ref a :: st)) := by
  subst hp
  obtain ⟨cl, Ar, q, S, N, H, _⟩ := A
  have hin := inb_of S ⟨h0, h1⟩
  exact Goes.fore (fun t q => X.aaload hx (j := j) (v := v) (by rw [eT]; exact Ar.1) (State.isArrayOf_alike hZ.alike Ar.2.1) hty Ar.2.2 hin (Has.at H hin hv) (g := mkF m pc ls (.int j :: .ref a :: st)) rfl rfl hd t q) k
theorem gArrLen (X : Stand p l e R s m args below meth c T locs cells slots) (hx : p.tables.exec = Jvm.exec) (hZ : Z.Warmed39 s.vm) (eT : T.heap = h) {ty : FieldType} (A : Arv Z h a ck ty n vs dv) (hd : decode c.code pc = .ok (.arraylength, 1)) (hp : pc + 1 = pc') (k : Goes p e below F T (mkF m pc' ls (.int n :: st))) : Goes p e below F T (mkF m pc ls (.ref a :: st)) := by
  subst hp
  obtain ⟨cl, Ar, q, S, N, H, _⟩ := A
  refine Goes.fore (fun t q => X.arraylength hx (by rw [eT]; exact Ar.1) (State.isArrayOf_alike hZ.alike Ar.2.1) (g := mkF m pc ls (.ref a :: st)) rfl rfl hd t q) ?_
  rw [len_of S N]; exact k
theorem gIastore (X : Stand p l e R s m args below meth c T locs cells slots) (hx : p.tables.exec = Jvm.exec) (hZ : Z.Warmed39 s.vm) (eT : T.heap = h) {x : Int32} (A : Arv Z h a ck .int n vs dv) (h0 : ¬ j < 0) (h1 : j < n) (i : Nat) (hj : j.toNatClampNeg = i) (hi : i < vs.length) (hd : decode c.code pc = .ok (.iastore, 1)) (hp : pc + 1 = pc')
    (k : ∀ T' h', Stand p l e R s m args below meth c T' (locs ++ [⟨a, j.toNatClampNeg⟩]) cells slots → T'.heap = h' → Wr h h' a j.toNatClampNeg (.int x) → Arv Z h' a ck .int n (vs.set i (.int x)) dv → Goes p e below F T' (mkF m pc' ls st)) : Goes p e below F T (mkF m pc ls (.int x :: .int j :: .ref a :: st)) := by
  subst hp
  obtain ⟨cl, Ar, q, S, N, H, Gt⟩ := A
  obtain ⟨T', h', X', e', W, st'⟩ := stI X hx hZ eT Ar (j := j) (inb_of S ⟨h0, h1⟩) (g := mkF m pc ls (.int x :: .int j :: .ref a :: st)) rfl rfl hd
  exact Goes.fore st' (k T' h' X' e' W (Arv.set Ar q S N H Gt rfl W i hj hi))
theorem gCastore (X : Stand p l e R s m args below meth c T locs cells slots) (hx : p.tables.exec = Jvm.exec) (hZ : Z.Warmed39 s.vm) (eT : T.heap = h) {x : Int32} (A : Arv Z h a ck .char n vs dv) (h0 : ¬ j < 0) (h1 : j < n) (i : Nat) (hj : j.toNatClampNeg = i) (hi : i < vs.length) (hd : decode c.code pc = .ok (.castore, 1)) (hp : pc + 1 = pc')
    (k : ∀ T' h', Stand p l e R s m args below meth c T' (locs ++ [⟨a, j.toNatClampNeg⟩]) cells slots → T'.heap = h' → Wr h h' a j.toNatClampNeg (.int (nar .char x)) → Arv Z h' a ck .char n (vs.set i (.int (nar .char x))) dv → Goes p e below F T' (mkF m pc' ls st)) : Goes p e below F T (mkF m pc ls (.int x :: .int j :: .ref a :: st)) := by
  subst hp
  obtain ⟨cl, Ar, q, S, N, H, Gt⟩ := A
  obtain ⟨T', h', X', e', W, st'⟩ := stC X hx hZ eT Ar (j := j) (inb_of S ⟨h0, h1⟩) (g := mkF m pc ls (.int x :: .int j :: .ref a :: st)) rfl rfl hd
  exact Goes.fore st' (k T' h' X' e' W (Arv.set Ar q S N H Gt (fits_nar_char _) W i hj hi))
theorem gBastore (X : Stand p l e R s m args below meth c T locs cells slots) (hx : p.tables.exec = Jvm.exec) (hZ : Z.Warmed39 s.vm) (eT : T.heap = h) {x : Int32} (A : Arv Z h a ck .byte n vs dv) (h0 : ¬ j < 0) (h1 : j < n) (i : Nat) (hj : j.toNatClampNeg = i) (hi : i < vs.length) (hd : decode c.code pc = .ok (.bastore, 1)) (hp : pc + 1 = pc')
    (k : ∀ T' h', Stand p l e R s m args below meth c T' (locs ++ [⟨a, j.toNatClampNeg⟩]) cells slots → T'.heap = h' → Wr h h' a j.toNatClampNeg (.int (nar .byte x)) → Arv Z h' a ck .byte n (vs.set i (.int (nar .byte x))) dv → Goes p e below F T' (mkF m pc' ls st)) : Goes p e below F T (mkF m pc ls (.int x :: .int j :: .ref a :: st)) := by
  subst hp
  obtain ⟨cl, Ar, q, S, N, H, Gt⟩ := A
  obtain ⟨T', h', X', e', W, st'⟩ := stB X hx hZ eT Ar (j := j) (inb_of S ⟨h0, h1⟩) (g := mkF m pc ls (.int x :: .int j :: .ref a :: st)) rfl rfl hd
  exact Goes.fore st' (k T' h' X' e' W (Arv.set Ar q S N H Gt (fits_nar_byte _) W i hj hi))
theorem gLastore (X : Stand p l e R s m args below meth c T locs cells slots) (hx : p.tables.exec = Jvm.exec) (hZ : Z.Warmed39 s.vm) (eT : T.heap = h) {x : Int64} (A : Arv Z h a ck .long n vs dv) (h0 : ¬ j < 0) (h1 : j < n) (i : Nat) (hj : j.toNatClampNeg = i) (hi : i < vs.length) (hd : decode c.code pc = .ok (.lastore, 1)) (hp : pc + 1 = pc')
    (k : ∀ T' h', Stand p l e R s m args below meth c T' (locs ++ [⟨a, j.toNatClampNeg⟩]) cells slots → T'.heap = h' → Wr h h' a j.toNatClampNeg (.long x) → Arv Z h' a ck .long n (vs.set i (.long x)) dv → Goes p e below F T' (mkF m pc' ls st)) : Goes p e below F T (mkF m pc ls (.long x :: .int j :: .ref a :: st)) := by
  subst hp
  obtain ⟨cl, Ar, q, S, N, H, Gt⟩ := A
  obtain ⟨T', h', X', e', W, st'⟩ := stJ X hx hZ eT Ar (j := j) (inb_of S ⟨h0, h1⟩) (g := mkF m pc ls (.long x :: .int j :: .ref a :: st)) rfl rfl hd
  exact Goes.fore st' (k T' h' X' e' W (Arv.set Ar q S N H Gt rfl W i hj hi))
theorem gNewP (X : Stand p l e R s m args below meth c T locs cells slots) (hx : p.tables.exec = Jvm.exec) (hZ : Z.Warmed39 s.vm) {aty : ArrayType} (w : (Jvm.Cond.arrayClass (newarray.typeOf aty)).before a0 Z = true) (eT : T.heap = h) (hd : decode c.code pc = .ok (.newarray aty, 2)) (hn : ¬ n < 0) {cap : Nat} (hcap : n.toNatClampNeg ≤ cap) (hb : cap * 8 ≤ 536870912) (hc : cells + 1 ≤ R.cells) (hl : slots + cap ≤ R.slots) (N : Nat) (hp : pc + 2 = pc')
    (k : ∀ T' h' b cA, Stand p l e R s m args below meth c T' locs (cells + 1) (slots + cap) → T'.heap = h' → b = h.size → Ext h h' → Arv Z h' b cA (newarray.typeOf aty) n (List.replicate N (defaultValue (newarray.typeOf aty))) (defaultValue (newarray.typeOf aty)) → Goes p e below F T' (mkF m pc' ls (.ref b :: st))) : Goes p e below F T (mkF m pc ls (.int n :: st)) := by
  subst hp
  obtain ⟨T', h', cA, X', e', E, A, st'⟩ := newP X hx hZ w eT (g := mkF m pc ls (.int n :: st)) rfl hd rfl hn hcap hb hc hl
  exact Goes.fore st' (k T' h' _ cA X' e' rfl E ((Arv.new A hn).pad (pad_rep [] _ N)))
theorem gCast (X : Stand p l e R s m args below meth c T locs cells slots) (hx : p.tables.exec = Jvm.exec) (hZ : Z.Warmed39 s.vm) {own K : String} {i : Nat} (hown : s.vm.findClass own = some m.cls) (w : (Jvm.Cond.classLink own i K).before a0 Z = true) (eT : T.heap = h) (I : Ins Z h a K true) (hd : decode c.code pc = .ok (.checkcast i, 3)) (hp : pc + 3 = pc')
    (k : ∀ T', Stand p l e R s m args below meth c T' locs cells slots → T'.heap = h → Goes p e below F T' (mkF m pc' ls (.ref a :: st))) : Goes p e below F T (mkF m pc ls (.ref a :: st)) := by
  subst hp
  obtain ⟨T', X', e', st'⟩ := castY X hx hZ hown w eT I (g := mkF m pc ls (.ref a :: st)) rfl rfl hd
  exact Goes.fore st' (k T' X' e')
theorem gClone (X : Stand p l e R s m args below meth c T locs cells slots) (hx : p.tables.exec = Jvm.exec) (hZ : Z.Warmed39 s.vm) {own ad : String} {i : Nat} (hown : s.vm.findClass own = some m.cls) (w1 : (Jvm.Cond.methodLink own i ⟨ad, "clone", "()Ljava/lang/Object;"⟩).before a0 Z = true) (w2 : (Jvm.Cond.sameMethod ad "java/lang/Object" "clone" "()Ljava/lang/Object;").before a0 Z = true) (w3 : (Jvm.Cond.native ⟨"java/lang/Object", "clone", "()Ljava/lang/Object;"⟩).before a0 Z = true)
    (w4 : (Jvm.Cond.instanceMethod ⟨"java/lang/Object", "clone", "()Ljava/lang/Object;"⟩).before a0 Z = true) (w5 : (Jvm.Cond.selects ad ⟨ad, "clone", "()Ljava/lang/Object;"⟩ ⟨"java/lang/Object", "clone", "()Ljava/lang/Object;"⟩).before a0 Z = true) (w6 : (Jvm.Cond.castable ad "java/lang/Cloneable").before a0 Z = true) {ty : FieldType}
    (eT : T.heap = h) (A : Arv Z h a ck ty n vs dv) (E : Exa Z h a ad) (hml : ls.size = c.maxLocals) (hd : decode c.code pc = .ok (.invokevirtual i, 3)) (hf : 1 ≤ R.frames) {W cap : Nat} (hW : (st.map fun v => v.category).sum ≤ W) (hlo : W + 14 ≤ R.locals) (hcap : n.toNatClampNeg ≤ cap) (hc : cells + 1 ≤ R.cells) (hsl : slots + cap ≤ R.slots) (hp : pc + 3 = pc')
    (k : ∀ T' h' b, Stand p l e R s m args below meth c T' locs (cells + 1) (slots + cap) → T'.heap = h' → b = h.size → Ext h h' → Arv Z h' b ck ty n vs dv → Exa Z h' b ad → Goes p e below F T' (mkF m pc' ls (.ref b :: st))) : Goes p e below F T (mkF m pc ls (.ref a :: st)) := by
  subst hp
  obtain ⟨T', h', X', e', E', A', Ex, st'⟩ := cloneH X hx hZ hown w1 w2 w3 w4 w5 w6 eT A.arh E (g := mkF m pc ls (.ref a :: st)) rfl hml rfl hd hf (W := W) (cap := cap) (by show 2 * 0 + _ ≤ _; omega) hlo hcap hc hsl
  exact Goes.fore st' (k T' h' _ X' e' rfl E' A' Ex)
theorem gArrCopy (X : Stand p l e R s m args below meth c T locs cells slots) (hx : p.tables.exec = Jvm.exec) (hZ : Z.Warmed39 s.vm) {own : String} {i : Nat} (hown : s.vm.findClass own = some m.cls) (w1 : (Jvm.Cond.methodLink own i Jvm.Stand.acN).before a0 Z = true) (w2 : (Jvm.Cond.native Jvm.Stand.acN).before a0 Z = true) (w3 : (Jvm.Cond.static Jvm.Stand.acN).before a0 Z = true) (w4 : (Jvm.Cond.initialized "java/lang/System").before a0 Z = true) (eT : T.heap = h)
    {b : Addr} {cb : ClassId} {ty : FieldType} {n' sp dp nn : Int32} {vd : List Value} {dd : Value} (A : Arv Z h a ck ty n vs dv) (B : Arv Z h b cb ty n' vd dd) (hty : refKind ty = false) (h1 : ¬ sp < 0) (h2 : ¬ dp < 0) (h3 : ¬ nn < 0) (h4 : sp.toNatClampNeg + nn.toNatClampNeg ≤ n.toNatClampNeg) (h5 : dp.toNatClampNeg + nn.toNatClampNeg ≤ n'.toNatClampNeg) (hl : dp.toNatClampNeg + nn.toNatClampNeg ≤ vd.length) {n0 : Nat} (N : Fr n0 locs) (ge : n0 ≤ b)
    (hml : ls.size = c.maxLocals) (hd : decode c.code pc = .ok (.invokestatic i, 3)) (hp : pc + 3 = pc') (hf : 1 ≤ R.frames) {W : Nat} (hW : (st.map fun v => v.category).sum ≤ W) (hlo : W + (nativeFrameWords "java/lang/System" "arraycopy" 5 + 11) ≤ R.locals)
    (k : ∀ T' h' L, Stand p l e R s m args below meth c T' L cells slots → T'.heap = h' → Fr n0 L → Keep h h' [b] → Arv Z h' b cb ty n' (vd.take dp.toNatClampNeg ++ ((List.range nn.toNatClampNeg).map fun i => vs.getD (sp.toNatClampNeg + i) dv) ++ vd.drop (dp.toNatClampNeg + nn.toNatClampNeg)) dd → Goes p e below F T' (mkF m pc' ls st)) : Goes p e below F T (mkF m pc ls (.int nn :: .int dp :: .ref b :: .int sp :: .ref a :: st)) := by
  subst hp
  obtain ⟨T', h', L, X', e', N', K, A', st'⟩ := cpA X hx hZ hown w1 w2 w3 w4 eT A B (Or.inl ⟨rfl, hty⟩) h1 h2 h3 h4 h5 rfl hl N ge (g := mkF m pc ls (.int nn :: .int dp :: .ref b :: .int sp :: .ref a :: st)) rfl hml rfl hd hf (W := W) (by show 2 * 0 + _ ≤ _; omega) hlo
  exact Goes.fore st' (k T' h' L X' e' N' K A')
theorem gCallP (X : Stand p l e R s m args below meth c T locs cells slots) (hx : p.tables.exec = Jvm.exec) (hZ : Z.Warmed39 s.vm) {y : MethodName} {bytes : ByteArray} {maxL : Nat} {ret : Option FieldType} {rm : Room} {own : String} {i kk : Nat} {Qc : Option Value → Heap → List Loc → Prop} (hown : s.vm.findClass own = some m.cls) (eT : T.heap = h) (hml : ls.size = c.maxLocals) (E : Exa Z h a y.cls)
    (w1 : (Jvm.Cond.methodLink own i y).before a0 Z = true) (w6 : (Jvm.Cond.instanceMethod y).before a0 Z = true) (w5 : (Jvm.Cond.privateMethod y).before a0 Z = true) (wi : (Jvm.Cond.instantiable y.cls kk).before a0 Z = true) (w3 : (Jvm.Cond.initialized y.cls).before a0 Z = true) (w4 : (Jvm.Cond.code y bytes maxL ret).before a0 Z = true) (hy : y.cls ≠ "java/lang/invoke/MethodHandle" ∧ y.cls ≠ "java/lang/invoke/VarHandle")
    {argsL : List Value} {stk : List Value} (hC : Ctr l Z y bytes maxL ret [] rm (.ref a :: argsL).toArray h Qc) (hlen : ∀ sig, parseMethodDescriptor y.desc = some sig → argsL.length = sig.parameters.length) (hd : decode c.code pc = .ok (.invokevirtual i, 3)) (hp : pc + 3 = pc') (hst : stk = argsL.reverse ++ .ref a :: st)
    (hf : rm.frames + 1 ≤ R.frames) {W : Nat} (hW : (st.map fun v => v.category).sum ≤ W) (hlo : W + (maxL + 11) + rm.locals ≤ R.locals) (hce : cells + rm.cells ≤ R.cells) (hsl : slots + rm.slots ≤ R.slots)
    (k : ∀ T' v L, Stand p l e R s m args below meth c T' (locs ++ L) (cells + rm.cells) (slots + rm.slots) → Qc v T'.heap L → Goes p e below F T' (mkF m pc' ls (v.toList ++ st))) : Goes p e below F T (mkF m pc ls stk) := by
  subst hp hst
  obtain ⟨cq, q1, q2⟩ := E.cell
  have hpr : s.PrivateAt y := Cond.privateMethod_at (mvP hZ w5 (args := #[]))
  obtain ⟨cc, kc, hc1, hk1, -, hni, -, -⟩ := Cond.instantiable_spec (mvT (args := args) hZ wi)
  have hsel : (Jvm.Cond.selects y.cls y y).before args s = true := Jvm.Stand.selects_self_of_private hc1 hk1 (Bool.or_eq_false_iff.mp hni).1 hpr (mvT hZ w6) hy
  obtain ⟨v, _, ⟨T', L', k', n'⟩, -, X', ⟨Lc, hQ, l1, y1, z1⟩, st'⟩ := X.privateBack hx (y := y) hown (mvT hZ w1) (mvT hZ w6) hsel hpr (mvT hZ w4) hy (backOf (W := W) hC hZ w4 w3 hf hlo) (g := mkF m pc ls (argsL.reverse ++ .ref a :: st)) rfl hml (Steps.refl _) (a := a) (by rw [eT]; exact q1) q2 (argsL := argsL) (rest := st) hlen rfl (by show 2 * 0 + _ ≤ _; omega) hd (fun _ _ => ⟨rfl, eT, hce, hsl⟩)
  dsimp only [Pt.U, Pt.locs, Pt.cells, Pt.slots] at X' l1 y1 z1 st' hQ
  subst l1 y1 z1
  exact Goes.tr st' (k T' v Lc X' hQ)
end OwnArrays
def Buf (Z : State) (h : Heap) (n0 : Nat) (w : Addr) (bs : List Value) (m : Nat) : Prop := ∃ (b : Addr) (ck : ClassId) (n k : Int32) (r : List Value), n0 ≤ w ∧ n0 ≤ b ∧ n0 ≤ h.size ∧ Exa Z h w "com/example/anteroom/anteroom/PayloadWriter" ∧ Fld Z h w "com/example/anteroom/anteroom/PayloadWriter" "octets" "[B" (.ref b) ∧ Fld Z h w "com/example/anteroom/anteroom/PayloadWriter" "length" "I" (.int k) ∧ Arv Z h b ck .byte n (bs ++ r) (.int 0) ∧ k.toInt = bs.length ∧ n.toInt = bs.length + r.length ∧ n.toInt ≤ 15 ∧ m ≤ r.length
theorem own_m8 (i : Nat) : (255#32).getLsbD i = decide (i < 8) := by
  by_cases h : i < 32
  · exact (by decide : ∀ j : Fin 32, (255#32).getLsbD j.val = decide (j.val < 8)) ⟨i, h⟩
  · rw [BitVec.getLsbD_of_ge _ _ (by omega)]; simp; omega
theorem own_m16 (i : Nat) : (65535#32).getLsbD i = decide (i < 16) := by
  by_cases h : i < 32
  · exact (by decide : ∀ j : Fin 32, (65535#32).getLsbD j.val = decide (j.val < 16)) ⟨i, h⟩
  · rw [BitVec.getLsbD_of_ge _ _ (by omega)]; simp; omega
theorem own_rd (v : Int32) : ((((v.toUInt32 >>> ((8 : Int32) &&& 31).toUInt32).toInt32).toInt8.toInt32 &&& 255) <<< ((8 : Int32) &&& 31)) ||| (v.toInt8.toInt32 &&& 255) = v &&& 65535 := by
  apply Int32.toBitVec_inj.mp
  apply BitVec.eq_of_getLsbD_eq
  intro i hi
  simp [own_m8, own_m16, BitVec.getLsbD_signExtend]
  by_cases h8 : i < 8
  · simp [h8, show i < 16 by omega, hi]
  · by_cases h16 : i < 16
    · simp [h8, h16, hi, show i - 8 < 8 by omega, show i - 8 < 32 by omega, show 8 + (i - 8) = i by omega]
    · simp [h8, h16, hi, show ¬ i - 8 < 8 by omega]
theorem own_ush24 (a : Int32) : (((a.toUInt32 >>> ((16 : Int32) &&& 31).toUInt32).toInt32).toUInt32 >>> ((8 : Int32) &&& 31).toUInt32).toInt32 = (a.toUInt32 >>> ((24 : Int32) &&& 31).toUInt32).toInt32 := by
  apply Int32.toBitVec_inj.mp
  apply BitVec.eq_of_toNat_eq
  simp
theorem own_ush0 (a : Int32) : (a.toUInt32 >>> ((0 : Int32) &&& 31).toUInt32).toInt32 = a := by
  apply Int32.toBitVec_inj.mp
  apply BitVec.eq_of_toNat_eq
  simp
theorem own_nb (x : Int32) : nar .byte x.toInt8.toInt32 = x.toInt8.toInt32 := by simp [nar]
theorem own_clamp {k : Int32} {n : Nat} (h : k.toInt = n) : k.toNatClampNeg = n := by simp only [Int32.toNatClampNeg]; omega
theorem own_nn {k : Int32} (h : 0 ≤ k.toInt) : ¬ k < 0 := by rw [Int32.lt_iff_toInt_lt]; have : (0 : Int32).toInt = 0 := rfl; omega
theorem own_lt {j n : Int32} (h : j.toInt < n.toInt) : j < n := Int32.lt_iff_toInt_lt.mpr h
theorem own_range (vs : List Value) (d : Value) : ((List.range vs.length).map fun i => vs.getD i d) = vs := by
  apply List.ext_getElem
  · simp
  · intro i h1 h2; simp [List.getElem?_eq_getElem h2]
theorem own_set2 (bs r : List Value) (x y : Value) (h : 2 ≤ r.length) : ((bs ++ r).set bs.length x).set (bs.length + 1) y = (bs ++ [x, y]) ++ r.drop 2 := by
  match r, h with
  | a :: b :: t, _ => simp
def byteOf (x : Int32) : Value := .int x.toInt8.toInt32
def sh (x k : Int32) : Int32 := (x.toUInt32 >>> (k &&& 31).toUInt32).toInt32
def mx (a b : Int32) : Int32 := if a.toInt < b.toInt then b else a
def mi (a b : Int32) : Int32 := if b.toInt < a.toInt then b else a
theorem d_jdk_29_method_65_0 : decode jdk_29_method_65_code 0 = .ok (.iload_n 0, 1) := by decide +kernel
theorem d_jdk_29_method_65_1 : decode jdk_29_method_65_code 1 = .ok (.iload_n 1, 1) := by decide +kernel
theorem d_jdk_29_method_65_2 : decode jdk_29_method_65_code 2 = .ok (.if_icmp .lt 7, 3) := by decide +kernel
theorem d_jdk_29_method_65_9 : decode jdk_29_method_65_code 9 = .ok (.iload_n 1, 1) := by decide +kernel
theorem d_jdk_29_method_65_10 : decode jdk_29_method_65_code 10 = .ok (.ireturn, 1) := by decide +kernel
theorem d_jdk_29_method_65_5 : decode jdk_29_method_65_code 5 = .ok (.iload_n 0, 1) := by decide +kernel
theorem d_jdk_29_method_65_6 : decode jdk_29_method_65_code 6 = .ok (.goto 4, 3) := by decide +kernel
theorem ef_c_mx (m : MethodId) (p0 : Int32) (p1 : Int32) : entryFrame m #[(.int p0), (.int p1)] 2 = mkF m 0 #[.val (.int p0), .val (.int p1)] [] := by first | (simp [entryFrame, mkF, argsToLocals, Value.category]; done) | rfl
set_option maxRecDepth 65536 in
set_option maxHeartbeats 40000000 in
theorem c_mx (l : Launch) (Z : State) (a0 : Array Value) (hw : ∀ d ∈ tables_1, d.before a0 Z = true) (p0 p1 : Int32) (h0 : Heap)  :
    Ctr l Z (⟨"java/lang/Math", "max", "(II)I"⟩ : MethodName) jdk_29_method_65_code 2 (some .int) [] ({ frames := 0, cells := 0, slots := 0, locals := 0 } : Room) #[(.int p0), (.int p1)] h0 (Just h0 (.int (mx p0 p1))) := by
  refine Ctr.of (Jvm.Free.JP.mathPlain rfl (by decide +kernel)) ?_
  intro p e s m below meth c s₁ hx hby hml hret hown hnm hZ hlk X0 e0
  refine Goes.cast (ef_c_mx m p0 p1) ?_
  refine gLoadIN X0 hx (hb hby d_jdk_29_method_65_0) (pc' := 1) rfl rfl ?_
  refine gLoadIN X0 hx (hb hby d_jdk_29_method_65_1) (pc' := 2) rfl rfl ?_
  refine gIcmpLt X0 hx (hb hby d_jdk_29_method_65_2) (pc' := 9) (by decide) (by decide) (pn := 5) rfl (fun (c2 : p0.toInt < p1.toInt) => ?_) (fun (c2 : p1.toInt ≤ p0.toInt) => ?_)
  · refine gLoadIN X0 hx (hb hby d_jdk_29_method_65_9) (pc' := 10) rfl rfl ?_
    exact gRetI X0 hx hlk hret (hb hby d_jdk_29_method_65_10) (by decide) (by decide) (⟨by rw [mx, if_pos (by omega)], e0, rfl⟩)
  · refine gLoadIN X0 hx (hb hby d_jdk_29_method_65_5) (pc' := 6) rfl rfl ?_
    refine gGoto X0 hx (hb hby d_jdk_29_method_65_6) (pc' := 10) (by decide) (by decide) ?_
    exact gRetI X0 hx hlk hret (hb hby d_jdk_29_method_65_10) (by decide) (by decide) (⟨by rw [mx, if_neg (by omega)], e0, rfl⟩)
theorem d_jdk_29_method_69_0 : decode jdk_29_method_69_code 0 = .ok (.iload_n 0, 1) := by decide +kernel
theorem d_jdk_29_method_69_1 : decode jdk_29_method_69_code 1 = .ok (.iload_n 1, 1) := by decide +kernel
theorem d_jdk_29_method_69_2 : decode jdk_29_method_69_code 2 = .ok (.if_icmp .gt 7, 3) := by decide +kernel
theorem d_jdk_29_method_69_9 : decode jdk_29_method_69_code 9 = .ok (.iload_n 1, 1) := by decide +kernel
theorem d_jdk_29_method_69_10 : decode jdk_29_method_69_code 10 = .ok (.ireturn, 1) := by decide +kernel
theorem d_jdk_29_method_69_5 : decode jdk_29_method_69_code 5 = .ok (.iload_n 0, 1) := by decide +kernel
theorem d_jdk_29_method_69_6 : decode jdk_29_method_69_code 6 = .ok (.goto 4, 3) := by decide +kernel
theorem ef_c_mi (m : MethodId) (p0 : Int32) (p1 : Int32) : entryFrame m #[(.int p0), (.int p1)] 2 = mkF m 0 #[.val (.int p0), .val (.int p1)] [] := by first | (simp [entryFrame, mkF, argsToLocals, Value.category]; done) | rfl
set_option maxRecDepth 65536 in
set_option maxHeartbeats 40000000 in
theorem c_mi (l : Launch) (Z : State) (a0 : Array Value) (hw : ∀ d ∈ tables_1, d.before a0 Z = true) (p0 p1 : Int32) (h0 : Heap)  :
    Ctr l Z (⟨"java/lang/Math", "min", "(II)I"⟩ : MethodName) jdk_29_method_69_code 2 (some .int) [] ({ frames := 0, cells := 0, slots := 0, locals := 0 } : Room) #[(.int p0), (.int p1)] h0 (Just h0 (.int (mi p0 p1))) := by
  refine Ctr.of (Jvm.Free.JP.mathPlain rfl (by decide +kernel)) ?_
  intro p e s m below meth c s₁ hx hby hml hret hown hnm hZ hlk X0 e0
  refine Goes.cast (ef_c_mi m p0 p1) ?_
  refine gLoadIN X0 hx (hb hby d_jdk_29_method_69_0) (pc' := 1) rfl rfl ?_
  refine gLoadIN X0 hx (hb hby d_jdk_29_method_69_1) (pc' := 2) rfl rfl ?_
  refine gIcmpGt X0 hx (hb hby d_jdk_29_method_69_2) (pc' := 9) (by decide) (by decide) (pn := 5) rfl (fun (c2 : p1.toInt < p0.toInt) => ?_) (fun (c2 : p0.toInt ≤ p1.toInt) => ?_)
  · refine gLoadIN X0 hx (hb hby d_jdk_29_method_69_9) (pc' := 10) rfl rfl ?_
    exact gRetI X0 hx hlk hret (hb hby d_jdk_29_method_69_10) (by decide) (by decide) (⟨by rw [mi, if_pos (by omega)], e0, rfl⟩)
  · refine gLoadIN X0 hx (hb hby d_jdk_29_method_69_5) (pc' := 6) rfl rfl ?_
    refine gGoto X0 hx (hb hby d_jdk_29_method_69_6) (pc' := 10) (by decide) (by decide) ?_
    exact gRetI X0 hx hlk hret (hb hby d_jdk_29_method_69_10) (by decide) (by decide) (⟨by rw [mi, if_neg (by omega)], e0, rfl⟩)
def Qc (Z : State) (vs : List Value) (q : Int32) (h0 : Heap) (v : Option Value) (h : Heap) (L : List Loc) : Prop := ∃ (b : Addr) (ck : ClassId), v = some (.ref b) ∧ h0.size ≤ b ∧ Keep h0 h [] ∧ Fr h0.size L ∧ Arv Z h b ck .byte q (vs ++ List.replicate (q.toNatClampNeg - vs.length) (.int 0)) (.int 0)
theorem d_jdk_65_method_121_0 : decode jdk_65_method_121_code 0 = .ok (.iload_n 1, 1) := by decide +kernel
theorem d_jdk_65_method_121_1 : decode jdk_65_method_121_code 1 = .ok (.aload_n 0, 1) := by decide +kernel
theorem d_jdk_65_method_121_2 : decode jdk_65_method_121_code 2 = .ok (.arraylength, 1) := by decide +kernel
theorem d_jdk_65_method_121_3 : decode jdk_65_method_121_code 3 = .ok (.if_icmp .ne 11, 3) := by decide +kernel
theorem d_jdk_65_method_121_14 : decode jdk_65_method_121_code 14 = .ok (.iload_n 1, 1) := by decide +kernel
theorem d_jdk_65_method_121_15 : decode jdk_65_method_121_code 15 = .ok (.newarray .byte, 2) := by decide +kernel
theorem d_jdk_65_method_121_17 : decode jdk_65_method_121_code 17 = .ok (.astore_n 2, 1) := by decide +kernel
theorem d_jdk_65_method_121_18 : decode jdk_65_method_121_code 18 = .ok (.aload_n 0, 1) := by decide +kernel
theorem d_jdk_65_method_121_19 : decode jdk_65_method_121_code 19 = .ok (.iconst 0, 1) := by decide +kernel
theorem d_jdk_65_method_121_20 : decode jdk_65_method_121_code 20 = .ok (.aload_n 2, 1) := by decide +kernel
theorem d_jdk_65_method_121_21 : decode jdk_65_method_121_code 21 = .ok (.iconst 0, 1) := by decide +kernel
theorem d_jdk_65_method_121_22 : decode jdk_65_method_121_code 22 = .ok (.aload_n 0, 1) := by decide +kernel
theorem d_jdk_65_method_121_23 : decode jdk_65_method_121_code 23 = .ok (.arraylength, 1) := by decide +kernel
theorem d_jdk_65_method_121_24 : decode jdk_65_method_121_code 24 = .ok (.iload_n 1, 1) := by decide +kernel
theorem d_jdk_65_method_121_25 : decode jdk_65_method_121_code 25 = .ok (.invokestatic 304, 3) := by decide +kernel
theorem pd_5 : parseMethodDescriptor "(II)I" = some ⟨[.int, .int], some .int⟩ := by decide +kernel
theorem d_jdk_65_method_121_28 : decode jdk_65_method_121_code 28 = .ok (.invokestatic 150, 3) := by decide +kernel
theorem d_jdk_65_method_121_31 : decode jdk_65_method_121_code 31 = .ok (.aload_n 2, 1) := by decide +kernel
theorem d_jdk_65_method_121_32 : decode jdk_65_method_121_code 32 = .ok (.areturn, 1) := by decide +kernel
theorem pn_4 : plainName "java/util/Arrays" = true := by first | (simp [plainName, overriddenIn]; done) | decide +kernel
theorem ef_c_copy (m : MethodId) (b : Addr) (q : Int32) : entryFrame m #[(.ref b), (.int q)] 3 = mkF m 0 #[.val (.ref b), .val (.int q), .unset] [] := by first | (simp [entryFrame, mkF, argsToLocals, Value.category]; done) | rfl
set_option maxRecDepth 65536 in
set_option maxHeartbeats 40000000 in
theorem c_copy (l : Launch) (Z : State) (a0 : Array Value) (hw : ∀ d ∈ tables_1, d.before a0 Z = true) (b : Addr) (ck : ClassId) (n q : Int32) (vs : List Value) (h0 : Heap) (A : Arv Z h0 b ck .byte n vs (.int 0)) (hn : n.toInt = vs.length) (hlt : n.toInt < q.toInt) (h14 : q.toInt ≤ 14) :
    Ctr l Z (⟨"java/util/Arrays", "copyOf", "([BI)[B"⟩ : MethodName) jdk_65_method_121_code 3 (some (.array .byte)) [] ({ frames := 1, cells := 1, slots := 14, locals := 30 } : Room) #[(.ref b), (.int q)] h0 (Qc Z vs q h0) := by
  refine Ctr.of (plainFor_of_name pn_4) ?_
  intro p e s m below meth c s₁ hx hby hml hret hown hnm hZ hlk X0 e0
  refine Goes.cast (ef_c_copy m b q) ?_
  have cn : n.toNatClampNeg = vs.length := own_clamp hn
  have z0 : (0 : Int32).toNatClampNeg = 0 := by decide
  have cq : vs.length ≤ q.toNatClampNeg := by rw [own_clamp (n := q.toInt.toNat) (by omega)]; omega
  refine gLoadIN X0 hx (hb hby d_jdk_65_method_121_0) (pc' := 1) rfl rfl ?_
  refine gLoadAN X0 hx (hb hby d_jdk_65_method_121_1) (pc' := 2) rfl rfl rfl ?_
  refine gArrLen X0 hx hZ e0 A (hb hby d_jdk_65_method_121_2) (pc' := 3) rfl ?_
  refine gIcmpNe X0 hx (hb hby d_jdk_65_method_121_3) (pc' := 14) (by decide) (by decide) (pn := 6) rfl (fun (c3 : ¬ q = n) => ?_) (fun (c3 : q = n) => ?_)
  · refine gLoadIN X0 hx (hb hby d_jdk_65_method_121_14) (pc' := 15) rfl rfl ?_
    refine gNewP X0 hx hZ (hw _ (List.mem_of_getElem? (i := 10) rfl)) e0 (n := q) (hb hby d_jdk_65_method_121_15) (own_nn (by omega)) (cap := 14) (by rw [own_clamp (n := q.toInt.toNat) (by omega)]; omega) (by decide) (by decide) (by decide) q.toNatClampNeg (pc' := 17) rfl (fun T1 h1 b1 ck1 X1 e1 g1 E1 A1 => ?_)
    have ne_b_b1 : b ≠ b1 := Nat.ne_of_lt (Nat.lt_of_lt_of_eq A.lt g1.symm)
    have f1_0 := A.ext E1
    have sz_b1 : h0.size ≤ b1 := Nat.le_trans (Nat.le_refl _) (Nat.le_of_eq g1.symm)
    have zs1 : h0.size ≤ h1.size := Nat.le_trans (Nat.le_refl _) E1.1
    have K1 : Keep h0 h1 [] := (Keep.refl h0 []).ext E1
    have V1 : Arv Z h1 b1 ck1 .byte q (List.replicate q.toNatClampNeg (.int (0 : Int32))) (.int (0 : Int32)) := A1
    refine gStoreAN X1 hx (hb hby d_jdk_65_method_121_17) (l' := #[.val (.ref b), .val (.int q), .val (.ref b1)]) (pc' := 18) rfl rfl rfl ?_
    refine gLoadAN X1 hx (hb hby d_jdk_65_method_121_18) (pc' := 19) rfl rfl rfl ?_
    refine gIconst X1 hx (v := (0 : Int32)) (hb hby d_jdk_65_method_121_19) (pc' := 20) rfl rfl ?_
    refine gLoadAN X1 hx (hb hby d_jdk_65_method_121_20) (pc' := 21) rfl rfl rfl ?_
    refine gIconst X1 hx (v := (0 : Int32)) (hb hby d_jdk_65_method_121_21) (pc' := 22) rfl rfl ?_
    refine gLoadAN X1 hx (hb hby d_jdk_65_method_121_22) (pc' := 23) rfl rfl rfl ?_
    refine gArrLen X1 hx hZ e1 f1_0 (hb hby d_jdk_65_method_121_23) (pc' := 24) rfl ?_
    refine gLoadIN X1 hx (hb hby d_jdk_65_method_121_24) (pc' := 25) rfl rfl ?_
    refine gCallSJ X1 hx hZ (y := (⟨"java/lang/Math", "min", "(II)I"⟩ : MethodName)) hown e1 (by rw [hml]; rfl) (hw _ (List.mem_of_getElem? (i := 37) rfl)) (hw _ (List.mem_of_getElem? (i := 38) rfl)) (hw _ (List.mem_of_getElem? (i := 31) rfl)) (hw _ (List.mem_of_getElem? (i := 39) rfl)) (by decide) (argsL := [(.int n), (.int q)]) (st := [(.int (0 : Int32)), (.ref b1), (.int (0 : Int32)), (.ref b)]) (c_mi l Z a0 hw n q h1) (lenOf pd_5 rfl) (hb hby d_jdk_65_method_121_25) (pc' := 28) rfl rfl rfl rfl (by decide) (W := 4) (Nat.le_of_eq rfl) (by decide) (by decide) (by decide) ?_
    intro T2 X2 e2
    have em : mi n q = n := by rw [mi, if_neg (by omega)]
    rw [em]
    refine gArrCopy X2 hx hZ hown (hw _ (List.mem_of_getElem? (i := 40) rfl)) (hw _ (List.mem_of_getElem? (i := 43) rfl)) (hw _ (List.mem_of_getElem? (i := 41) rfl)) (hw _ (List.mem_of_getElem? (i := 42) rfl)) e2 (dv := (.int 0)) (dd := (.int 0)) f1_0 V1 rfl (by decide) (by decide) (own_nn (by omega)) (by omega) (by omega) (by rw [List.length_replicate]; omega) (Fr.nil h0.size) sz_b1 (by rw [hml]; rfl) (hb hby d_jdk_65_method_121_28) (pc' := 31) rfl (by decide) (W := 0) (Nat.le_of_eq rfl) (by decide) (fun T3 h3 L3 X3 e3 N3 K3 A3 => ?_)
    have KK : Keep h0 h3 [] := K1.trans K3 (allS (Or.inr sz_b1) all0)
    have VV : Arv Z h3 b1 ck1 .byte q (vs ++ List.replicate (q.toNatClampNeg - vs.length) (.int 0)) (.int 0) := by
      rw [z0, Nat.zero_add, cn] at A3
      simpa only [List.take_zero, List.nil_append, Nat.zero_add, own_range, List.drop_replicate] using A3
    refine gLoadAN X3 hx (hb hby d_jdk_65_method_121_31) (pc' := 32) rfl rfl rfl ?_
    exact gRetA X3 hx hlk hret rfl rfl (hb hby d_jdk_65_method_121_32) (by decide) (by decide) (⟨_, _, rfl, sz_b1, by rw [e3]; exact KK, N3, by rw [e3]; exact VV⟩)
  · exact absurd (congrArg Int32.toInt c3) (by omega)
def Qe (Z : State) (w : Addr) (bs : List Value) (n0 : Nat) (v : Option Value) (h : Heap) (L : List Loc) : Prop := v = none ∧ Fr n0 L ∧ Buf Z h n0 w bs 2
theorem d_prog_13_method_14_0 : decode prog_13_method_14_code 0 = .ok (.aload_n 0, 1) := by decide +kernel
theorem d_prog_13_method_14_1 : decode prog_13_method_14_code 1 = .ok (.getfield 7, 3) := by decide +kernel
theorem d_prog_13_method_14_4 : decode prog_13_method_14_code 4 = .ok (.arraylength, 1) := by decide +kernel
theorem d_prog_13_method_14_5 : decode prog_13_method_14_code 5 = .ok (.aload_n 0, 1) := by decide +kernel
theorem d_prog_13_method_14_6 : decode prog_13_method_14_code 6 = .ok (.getfield 17, 3) := by decide +kernel
theorem d_prog_13_method_14_9 : decode prog_13_method_14_code 9 = .ok (.isub, 1) := by decide +kernel
theorem d_prog_13_method_14_10 : decode prog_13_method_14_code 10 = .ok (.iload_n 1, 1) := by decide +kernel
theorem d_prog_13_method_14_11 : decode prog_13_method_14_code 11 = .ok (.if_icmp .ge 30, 3) := by decide +kernel
theorem d_prog_13_method_14_41 : decode prog_13_method_14_code 41 = .ok (.return_, 1) := by decide +kernel
theorem d_prog_13_method_14_14 : decode prog_13_method_14_code 14 = .ok (.aload_n 0, 1) := by decide +kernel
theorem d_prog_13_method_14_15 : decode prog_13_method_14_code 15 = .ok (.aload_n 0, 1) := by decide +kernel
theorem d_prog_13_method_14_16 : decode prog_13_method_14_code 16 = .ok (.getfield 7, 3) := by decide +kernel
theorem d_prog_13_method_14_19 : decode prog_13_method_14_code 19 = .ok (.aload_n 0, 1) := by decide +kernel
theorem d_prog_13_method_14_20 : decode prog_13_method_14_code 20 = .ok (.getfield 7, 3) := by decide +kernel
theorem d_prog_13_method_14_23 : decode prog_13_method_14_code 23 = .ok (.arraylength, 1) := by decide +kernel
theorem d_prog_13_method_14_24 : decode prog_13_method_14_code 24 = .ok (.iconst 2, 1) := by decide +kernel
theorem d_prog_13_method_14_25 : decode prog_13_method_14_code 25 = .ok (.imul, 1) := by decide +kernel
theorem d_prog_13_method_14_26 : decode prog_13_method_14_code 26 = .ok (.aload_n 0, 1) := by decide +kernel
theorem d_prog_13_method_14_27 : decode prog_13_method_14_code 27 = .ok (.getfield 17, 3) := by decide +kernel
theorem d_prog_13_method_14_30 : decode prog_13_method_14_code 30 = .ok (.iload_n 1, 1) := by decide +kernel
theorem d_prog_13_method_14_31 : decode prog_13_method_14_code 31 = .ok (.iadd, 1) := by decide +kernel
theorem d_prog_13_method_14_32 : decode prog_13_method_14_code 32 = .ok (.invokestatic 53, 3) := by decide +kernel
theorem d_prog_13_method_14_35 : decode prog_13_method_14_code 35 = .ok (.invokestatic 59, 3) := by decide +kernel
theorem pd_9 : parseMethodDescriptor "([BI)[B" = some ⟨[(.array .byte), .int], some (.array .byte)⟩ := by decide +kernel
theorem d_prog_13_method_14_38 : decode prog_13_method_14_code 38 = .ok (.putfield 7, 3) := by decide +kernel
theorem pn_0 : plainName "com/example/anteroom/anteroom/PayloadWriter" = true := by first | (simp [plainName, overriddenIn]; done) | decide +kernel
theorem ef_c_ens (m : MethodId) (w : Addr) : entryFrame m #[(.ref w), (.int (2 : Int32))] 2 = mkF m 0 #[.val (.ref w), .val (.int (2 : Int32))] [] := by first | (simp [entryFrame, mkF, argsToLocals, Value.category]; done) | rfl
set_option maxRecDepth 65536 in
set_option maxHeartbeats 40000000 in
theorem c_ens (l : Launch) (Z : State) (a0 : Array Value) (hw : ∀ d ∈ tables_1, d.before a0 Z = true) (w : Addr) (bs : List Value) (n0 : Nat) (h0 : Heap) (hB : Buf Z h0 n0 w bs 0) (h6 : bs.length ≤ 6) :
    Ctr l Z (⟨"com/example/anteroom/anteroom/PayloadWriter", "ensure", "(I)V"⟩ : MethodName) prog_13_method_14_code 2 none [] ({ frames := 2, cells := 1, slots := 14, locals := 45 } : Room) #[(.ref w), (.int (2 : Int32))] h0 (Qe Z w bs n0) := by
  refine Ctr.of (plainFor_of_name pn_0) ?_
  intro p e s m below meth c s₁ hx hby hml hret hown hnm hZ hlk X0 e0
  refine Goes.cast (ef_c_ens m w) ?_
  obtain ⟨b, ck, n, k, r, gw, gb, gz, E1, F1, F2, A, hk, hn, h15, hm⟩ := hB
  have neb : w ≠ b := by obtain ⟨cl, Ar, -⟩ := A; exact ne_arr E1 (hw _ (List.mem_of_getElem? (i := 2) rfl)) Ar
  have t2 : (2 : Int32).toInt = 2 := rfl
  refine gLoadAN X0 hx (hb hby d_prog_13_method_14_0) (pc' := 1) rfl rfl rfl ?_
  refine gGetF X0 hx hZ hown (hw _ (List.mem_of_getElem? (i := 11) rfl)) Via.refl e0 F1 (hb hby d_prog_13_method_14_1) (pc' := 4) rfl (fun T1 X1 e1 => ?_)
  refine gArrLen X1 hx hZ e1 A (hb hby d_prog_13_method_14_4) (pc' := 5) rfl ?_
  refine gLoadAN X1 hx (hb hby d_prog_13_method_14_5) (pc' := 6) rfl rfl rfl ?_
  refine gGetF X1 hx hZ hown (hw _ (List.mem_of_getElem? (i := 27) rfl)) Via.refl e1 F2 (hb hby d_prog_13_method_14_6) (pc' := 9) rfl (fun T2 X2 e2 => ?_)
  refine gIsub X2 hx (hb hby d_prog_13_method_14_9) (pc' := 10) rfl ?_
  generalize hg_d : (n - k) = d
  have hd : d.toInt = n.toInt - k.toInt := by rw [← hg_d]; exact Jvm.Kit.i32_sub (by omega) (by omega)
  refine gLoadIN X2 hx (hb hby d_prog_13_method_14_10) (pc' := 11) rfl rfl ?_
  refine gIcmpGe X2 hx (hb hby d_prog_13_method_14_11) (pc' := 41) (by decide) (by decide) (pn := 14) rfl (fun (c11 : (2 : Int) ≤ d.toInt) => ?_) (fun (c11 : d.toInt < (2 : Int)) => ?_)
  · exact gRetV X2 hx hlk hret (hb hby d_prog_13_method_14_41) (by decide) (by decide) (⟨rfl, Fr.nil _, b, ck, n, k, r, gw, gb, by rw [e2]; exact gz, by rw [e2]; exact E1, by rw [e2]; exact F1, by rw [e2]; exact F2, by rw [e2]; exact A, hk, hn, h15, by omega⟩)
  · refine gLoadAN X2 hx (hb hby d_prog_13_method_14_14) (pc' := 15) rfl rfl rfl ?_
    refine gLoadAN X2 hx (hb hby d_prog_13_method_14_15) (pc' := 16) rfl rfl rfl ?_
    refine gGetF X2 hx hZ hown (hw _ (List.mem_of_getElem? (i := 11) rfl)) Via.refl e2 F1 (hb hby d_prog_13_method_14_16) (pc' := 19) rfl (fun T3 X3 e3 => ?_)
    refine gLoadAN X3 hx (hb hby d_prog_13_method_14_19) (pc' := 20) rfl rfl rfl ?_
    refine gGetF X3 hx hZ hown (hw _ (List.mem_of_getElem? (i := 11) rfl)) Via.refl e3 F1 (hb hby d_prog_13_method_14_20) (pc' := 23) rfl (fun T4 X4 e4 => ?_)
    refine gArrLen X4 hx hZ e4 A (hb hby d_prog_13_method_14_23) (pc' := 24) rfl ?_
    refine gIconst X4 hx (v := (2 : Int32)) (hb hby d_prog_13_method_14_24) (pc' := 25) rfl rfl ?_
    refine gImul X4 hx (hb hby d_prog_13_method_14_25) (pc' := 26) rfl ?_
    refine gLoadAN X4 hx (hb hby d_prog_13_method_14_26) (pc' := 27) rfl rfl rfl ?_
    refine gGetF X4 hx hZ hown (hw _ (List.mem_of_getElem? (i := 27) rfl)) Via.refl e4 F2 (hb hby d_prog_13_method_14_27) (pc' := 30) rfl (fun T5 X5 e5 => ?_)
    refine gLoadIN X5 hx (hb hby d_prog_13_method_14_30) (pc' := 31) rfl rfl ?_
    refine gIadd X5 hx (hb hby d_prog_13_method_14_31) (pc' := 32) rfl ?_
    refine gCallSJ X5 hx hZ (y := (⟨"java/lang/Math", "max", "(II)I"⟩ : MethodName)) hown e5 (by rw [hml]; rfl) (hw _ (List.mem_of_getElem? (i := 29) rfl)) (hw _ (List.mem_of_getElem? (i := 30) rfl)) (hw _ (List.mem_of_getElem? (i := 31) rfl)) (hw _ (List.mem_of_getElem? (i := 32) rfl)) (by decide) (argsL := [(.int (n * (2 : Int32))), (.int (k + (2 : Int32)))]) (st := [(.ref b), (.ref w)]) (c_mx l Z a0 hw (n * (2 : Int32)) (k + (2 : Int32)) h0) (lenOf pd_5 rfl) (hb hby d_prog_13_method_14_32) (pc' := 35) rfl rfl rfl rfl (by decide) (W := 2) (Nat.le_of_eq rfl) (by decide) (by decide) (by decide) ?_
    intro T6 X6 e6
    generalize hg_q : (mx (n * (2 : Int32)) (k + (2 : Int32))) = q
    have hq : q.toInt ≤ 14 ∧ n.toInt < q.toInt ∧ k.toInt + 2 ≤ q.toInt := by
      have e1 : (n * (2 : Int32)).toInt = n.toInt * 2 := by rw [Int32.toInt_mul, t2]; exact Jvm.Kit.bmod32 (by omega) (by omega)
      have e2 : (k + (2 : Int32)).toInt = k.toInt + 2 := by rw [Jvm.Kit.i32_add (by omega) (by omega), t2]
      rw [← hg_q, mx]; split <;> omega
    have cq : q.toNatClampNeg = q.toInt.toNat := own_clamp (by omega)
    refine gCallS X6 hx hZ (y := (⟨"java/util/Arrays", "copyOf", "([BI)[B"⟩ : MethodName)) hown e6 (by rw [hml]; rfl) (hw _ (List.mem_of_getElem? (i := 33) rfl)) (hw _ (List.mem_of_getElem? (i := 34) rfl)) (hw _ (List.mem_of_getElem? (i := 35) rfl)) (hw _ (List.mem_of_getElem? (i := 36) rfl)) (by decide) (argsL := [(.ref b), (.int q)]) (st := [(.ref w)]) (c_copy l Z a0 hw b ck n q (bs ++ r) h0 A (by rw [List.length_append]; omega) (by omega) (by omega)) (lenOf pd_9 rfl) (hb hby d_prog_13_method_14_35) (pc' := 38) rfl rfl (by decide) (W := 1) (Nat.le_of_eq rfl) (by decide) (by decide) (by decide) ?_
    intro T7 v7 L7 X7 hQ7
    obtain ⟨bb, ckb, rfl, gb7, Kq7, Nq7, A7⟩ := hQ7
    have N7 := Fr.app (Fr.nil n0) (fun y hy => Nat.le_trans gz (Nq7 y hy))
    have f7_0 := E1.keep Kq7
    have f7_1 := F1.keep Kq7 nin0
    have f7_2 := F2.keep Kq7 nin0
    have f7_3 := A.keep Kq7 nin0
    have szb : n0 ≤ bb := Nat.le_trans gz gb7
    have zs7 := Kq7.1
    have nebb : bb ≠ w := Ne.symm (Nat.ne_of_lt (Nat.lt_of_lt_of_le E1.lt gb7))
    refine gPutF X7 hx hZ hown (hw _ (List.mem_of_getElem? (i := 11) rfl)) Via.refl rfl f7_1 f7_0 (Or.inl (hw _ (List.mem_of_getElem? (i := 12) rfl))) (hw _ (List.mem_of_getElem? (i := 2) rfl)) (ty := (.array .byte)) (by decide) rfl rfl (hb hby d_prog_13_method_14_38) (pc' := 41) rfl (fun T8 h8 X8 e8 W8 => ?_)
    have f8_0 := f7_0.wr W8
    have f8_1 := f7_1.same W8
    have f8_2 := f7_2.other W8 (Or.inr (slot_ne (Or.inl (hw _ (List.mem_of_getElem? (i := 28) rfl))) (Or.inl (hw _ (List.mem_of_getElem? (i := 12) rfl))) (by decide) (t := .int) (t' := (.array .byte)) (by decide) (by decide)))
    have f8_3 := A7.other W8 nebb
    have zs8 : h0.size ≤ h8.size := by rw [W8.size]; exact zs7
    have N8 := Fr.snoc X8 N7 gw
    exact gRetV X8 hx hlk hret (hb hby d_prog_13_method_14_41) (by decide) (by decide) (⟨rfl, N8, bb, ckb, q, k, r ++ List.replicate (q.toNatClampNeg - (bs ++ r).length) (.int 0), gw, szb, by rw [e8]; exact Nat.le_trans gz zs8, by rw [e8]; exact f8_0, by rw [e8]; exact f8_1, by rw [e8]; exact f8_2, by rw [e8, ← List.append_assoc]; exact f8_3, hk, by simp only [List.length_append, List.length_replicate]; omega, by omega, by simp only [List.length_append, List.length_replicate]; omega⟩)
def Qw (Z : State) (w : Addr) (bs : List Value) (n0 : Nat) (v : Option Value) (h : Heap) (L : List Loc) : Prop := v = some (.ref w) ∧ Fr n0 L ∧ Buf Z h n0 w bs 0
theorem d_prog_13_method_4_0 : decode prog_13_method_4_code 0 = .ok (.aload_n 0, 1) := by decide +kernel
theorem d_prog_13_method_4_1 : decode prog_13_method_4_code 1 = .ok (.iconst 2, 1) := by decide +kernel
theorem d_prog_13_method_4_2 : decode prog_13_method_4_code 2 = .ok (.invokevirtual 13, 3) := by decide +kernel
theorem pd_4 : parseMethodDescriptor "(I)V" = some ⟨[.int], none⟩ := by decide +kernel
theorem d_prog_13_method_4_5 : decode prog_13_method_4_code 5 = .ok (.aload_n 0, 1) := by decide +kernel
theorem d_prog_13_method_4_6 : decode prog_13_method_4_code 6 = .ok (.getfield 7, 3) := by decide +kernel
theorem d_prog_13_method_4_9 : decode prog_13_method_4_code 9 = .ok (.aload_n 0, 1) := by decide +kernel
theorem d_prog_13_method_4_10 : decode prog_13_method_4_code 10 = .ok (.dup, 1) := by decide +kernel
theorem d_prog_13_method_4_11 : decode prog_13_method_4_code 11 = .ok (.getfield 17, 3) := by decide +kernel
theorem d_prog_13_method_4_14 : decode prog_13_method_4_code 14 = .ok (.dup_x1, 1) := by decide +kernel
theorem d_prog_13_method_4_15 : decode prog_13_method_4_code 15 = .ok (.iconst 1, 1) := by decide +kernel
theorem d_prog_13_method_4_16 : decode prog_13_method_4_code 16 = .ok (.iadd, 1) := by decide +kernel
theorem d_prog_13_method_4_17 : decode prog_13_method_4_code 17 = .ok (.putfield 17, 3) := by decide +kernel
theorem d_prog_13_method_4_20 : decode prog_13_method_4_code 20 = .ok (.iload_n 1, 1) := by decide +kernel
theorem d_prog_13_method_4_21 : decode prog_13_method_4_code 21 = .ok (.bipush 8, 2) := by decide +kernel
theorem d_prog_13_method_4_23 : decode prog_13_method_4_code 23 = .ok (.iushr, 1) := by decide +kernel
theorem d_prog_13_method_4_24 : decode prog_13_method_4_code 24 = .ok (.i2b, 1) := by decide +kernel
theorem d_prog_13_method_4_25 : decode prog_13_method_4_code 25 = .ok (.bastore, 1) := by decide +kernel
theorem d_prog_13_method_4_26 : decode prog_13_method_4_code 26 = .ok (.aload_n 0, 1) := by decide +kernel
theorem d_prog_13_method_4_27 : decode prog_13_method_4_code 27 = .ok (.getfield 7, 3) := by decide +kernel
theorem d_prog_13_method_4_30 : decode prog_13_method_4_code 30 = .ok (.aload_n 0, 1) := by decide +kernel
theorem d_prog_13_method_4_31 : decode prog_13_method_4_code 31 = .ok (.dup, 1) := by decide +kernel
theorem d_prog_13_method_4_32 : decode prog_13_method_4_code 32 = .ok (.getfield 17, 3) := by decide +kernel
theorem d_prog_13_method_4_35 : decode prog_13_method_4_code 35 = .ok (.dup_x1, 1) := by decide +kernel
theorem d_prog_13_method_4_36 : decode prog_13_method_4_code 36 = .ok (.iconst 1, 1) := by decide +kernel
theorem d_prog_13_method_4_37 : decode prog_13_method_4_code 37 = .ok (.iadd, 1) := by decide +kernel
theorem d_prog_13_method_4_38 : decode prog_13_method_4_code 38 = .ok (.putfield 17, 3) := by decide +kernel
theorem d_prog_13_method_4_41 : decode prog_13_method_4_code 41 = .ok (.iload_n 1, 1) := by decide +kernel
theorem d_prog_13_method_4_42 : decode prog_13_method_4_code 42 = .ok (.i2b, 1) := by decide +kernel
theorem d_prog_13_method_4_43 : decode prog_13_method_4_code 43 = .ok (.bastore, 1) := by decide +kernel
theorem d_prog_13_method_4_44 : decode prog_13_method_4_code 44 = .ok (.aload_n 0, 1) := by decide +kernel
theorem d_prog_13_method_4_45 : decode prog_13_method_4_code 45 = .ok (.areturn, 1) := by decide +kernel
theorem ef_c_wr (m : MethodId) (w : Addr) (p1 : Int32) : entryFrame m #[(.ref w), (.int p1)] 2 = mkF m 0 #[.val (.ref w), .val (.int p1)] [] := by first | (simp [entryFrame, mkF, argsToLocals, Value.category]; done) | rfl
set_option maxRecDepth 65536 in
set_option maxHeartbeats 40000000 in
theorem c_wr (l : Launch) (Z : State) (a0 : Array Value) (hw : ∀ d ∈ tables_1, d.before a0 Z = true) (w : Addr) (p1 : Int32) (bs : List Value) (n0 : Nat) (h0 : Heap) (hB : Buf Z h0 n0 w bs 0) (h6 : bs.length ≤ 6) :
    Ctr l Z (⟨"com/example/anteroom/anteroom/PayloadWriter", "writeInt", "(I)Lcom/example/anteroom/anteroom/PayloadWriter;"⟩ : MethodName) prog_13_method_4_code 2 (some (.object "com/example/anteroom/anteroom/PayloadWriter")) [] ({ frames := 3, cells := 1, slots := 14, locals := 60 } : Room) #[(.ref w), (.int p1)] h0 (Qw Z w (bs ++ [(byteOf (sh p1 8)), (byteOf p1)]) n0) := by
  refine Ctr.of (plainFor_of_name pn_0) ?_
  intro p e s m below meth c s₁ hx hby hml hret hown hnm hZ hlk X0 e0
  refine Goes.cast (ef_c_wr m w p1) ?_
  have hB0 := hB
  obtain ⟨b, ck, n, k, r, gw, gb, gz, E1, F1, F2, A, hk, hn, h15, hm⟩ := hB
  have neb : w ≠ b := by obtain ⟨cl, Ar, -⟩ := A; exact ne_arr E1 (hw _ (List.mem_of_getElem? (i := 2) rfl)) Ar
  have t1 : (1 : Int32).toInt = 1 := rfl
  refine gLoadAN X0 hx (hb hby d_prog_13_method_4_0) (pc' := 1) rfl rfl rfl ?_
  refine gIconst X0 hx (v := (2 : Int32)) (hb hby d_prog_13_method_4_1) (pc' := 2) rfl rfl ?_
  refine gCallP X0 hx hZ (y := (⟨"com/example/anteroom/anteroom/PayloadWriter", "ensure", "(I)V"⟩ : MethodName)) hown e0 (by rw [hml]; rfl) E1 (hw _ (List.mem_of_getElem? (i := 23) rfl)) (hw _ (List.mem_of_getElem? (i := 24) rfl)) (hw _ (List.mem_of_getElem? (i := 25) rfl)) (hw _ (List.mem_of_getElem? (i := 2) rfl)) (hw _ (List.mem_of_getElem? (i := 3) rfl)) (hw _ (List.mem_of_getElem? (i := 26) rfl)) (by decide) (argsL := [(.int (2 : Int32))]) (st := []) (c_ens l Z a0 hw w bs n0 h0 hB0 h6) (lenOf pd_4 rfl) (hb hby d_prog_13_method_4_2) (pc' := 5) rfl rfl (by decide) (W := 0) (Nat.le_of_eq rfl) (by decide) (by decide) (by decide) ?_
  intro T1 v1 L1 X1 hQ1
  obtain ⟨rfl, Nq1, hB1⟩ := hQ1
  clear hm hn h15 A F1 F2 E1 gz gb gw neb hk
  obtain ⟨b', ck', n', k', r', gw, gb, gz, E1, F1, F2, A, hk, hn, h15, hm⟩ := hB1
  have neb : w ≠ b' := by obtain ⟨cl, Ar, -⟩ := A; exact ne_arr E1 (hw _ (List.mem_of_getElem? (i := 2) rfl)) Ar
  have N1 := Fr.app (Fr.nil n0) Nq1
  have ek : (k' + (1 : Int32)).toInt = k'.toInt + 1 := by rw [Jvm.Kit.i32_add (by omega) (by omega), t1]
  have hk2 := own_clamp hk
  have hk3 : (k' + (1 : Int32)).toNatClampNeg = bs.length + 1 := own_clamp (by omega)
  refine gLoadAN X1 hx (hb hby d_prog_13_method_4_5) (pc' := 6) rfl rfl rfl ?_
  refine gGetF X1 hx hZ hown (hw _ (List.mem_of_getElem? (i := 11) rfl)) Via.refl rfl F1 (hb hby d_prog_13_method_4_6) (pc' := 9) rfl (fun T2 X2 e2 => ?_)
  refine gLoadAN X2 hx (hb hby d_prog_13_method_4_9) (pc' := 10) rfl rfl rfl ?_
  refine gDup X2 hx (hb hby d_prog_13_method_4_10) (pc' := 11) rfl rfl ?_
  refine gGetF X2 hx hZ hown (hw _ (List.mem_of_getElem? (i := 27) rfl)) Via.refl e2 F2 (hb hby d_prog_13_method_4_11) (pc' := 14) rfl (fun T3 X3 e3 => ?_)
  refine gDupX1 X3 hx (hb hby d_prog_13_method_4_14) (pc' := 15) rfl rfl rfl ?_
  refine gIconst X3 hx (v := (1 : Int32)) (hb hby d_prog_13_method_4_15) (pc' := 16) rfl rfl ?_
  refine gIadd X3 hx (hb hby d_prog_13_method_4_16) (pc' := 17) rfl ?_
  refine gPutF X3 hx hZ hown (hw _ (List.mem_of_getElem? (i := 27) rfl)) Via.refl e3 F2 E1 (Or.inl (hw _ (List.mem_of_getElem? (i := 28) rfl))) (hw _ (List.mem_of_getElem? (i := 2) rfl)) (ty := .int) (by decide) rfl rfl (hb hby d_prog_13_method_4_17) (pc' := 20) rfl (fun T4 h4 X4 e4 W4 => ?_)
  have f4_0 := E1.wr W4
  have f4_1 := F1.other W4 (Or.inr (slot_ne (Or.inl (hw _ (List.mem_of_getElem? (i := 12) rfl))) (Or.inl (hw _ (List.mem_of_getElem? (i := 28) rfl))) (by decide) (t := (.array .byte)) (t' := .int) (by decide) (by decide)))
  have f4_2 := F2.same W4
  have f4_3 := A.other W4 (Ne.symm neb)
  have N4 := Fr.snoc X4 N1 gw
  refine gLoadIN X4 hx (hb hby d_prog_13_method_4_20) (pc' := 21) rfl rfl ?_
  refine gBipush X4 hx (v := (8 : Int32)) (hb hby d_prog_13_method_4_21) (pc' := 23) rfl rfl ?_
  refine gIushr X4 hx (hb hby d_prog_13_method_4_23) (pc' := 24) rfl ?_
  refine gI2b X4 hx (hb hby d_prog_13_method_4_24) (pc' := 25) rfl ?_
  refine gBastore X4 hx hZ e4 (x := (((p1.toUInt32 >>> ((8 : Int32) &&& 31).toUInt32).toInt32).toInt8.toInt32)) f4_3 (j := k') (own_nn (by omega)) (own_lt (by omega)) bs.length hk2 (by rw [List.length_append]; omega) (hb hby d_prog_13_method_4_25) (pc' := 26) rfl (fun T5 h5 X5 e5 W5 A5 => ?_)
  have f5_0 := f4_0.wr W5
  have f5_1 := f4_1.other W5 (Or.inl neb)
  have f5_2 := f4_2.other W5 (Or.inl neb)
  have N5 := Fr.snoc X5 N4 gb
  have V5 : Arv Z h5 b' _ .byte n' ((bs ++ r').set bs.length (.int (nar .byte (((p1.toUInt32 >>> ((8 : Int32) &&& 31).toUInt32).toInt32).toInt8.toInt32)))) (.int 0) := A5
  refine gLoadAN X5 hx (hb hby d_prog_13_method_4_26) (pc' := 27) rfl rfl rfl ?_
  refine gGetF X5 hx hZ hown (hw _ (List.mem_of_getElem? (i := 11) rfl)) Via.refl e5 f5_1 (hb hby d_prog_13_method_4_27) (pc' := 30) rfl (fun T6 X6 e6 => ?_)
  refine gLoadAN X6 hx (hb hby d_prog_13_method_4_30) (pc' := 31) rfl rfl rfl ?_
  refine gDup X6 hx (hb hby d_prog_13_method_4_31) (pc' := 32) rfl rfl ?_
  refine gGetF X6 hx hZ hown (hw _ (List.mem_of_getElem? (i := 27) rfl)) Via.refl e6 f5_2 (hb hby d_prog_13_method_4_32) (pc' := 35) rfl (fun T7 X7 e7 => ?_)
  refine gDupX1 X7 hx (hb hby d_prog_13_method_4_35) (pc' := 36) rfl rfl rfl ?_
  refine gIconst X7 hx (v := (1 : Int32)) (hb hby d_prog_13_method_4_36) (pc' := 37) rfl rfl ?_
  refine gIadd X7 hx (hb hby d_prog_13_method_4_37) (pc' := 38) rfl ?_
  refine gPutF X7 hx hZ hown (hw _ (List.mem_of_getElem? (i := 27) rfl)) Via.refl e7 f5_2 f5_0 (Or.inl (hw _ (List.mem_of_getElem? (i := 28) rfl))) (hw _ (List.mem_of_getElem? (i := 2) rfl)) (ty := .int) (by decide) rfl rfl (hb hby d_prog_13_method_4_38) (pc' := 41) rfl (fun T8 h8 X8 e8 W8 => ?_)
  have f8_0 := f5_0.wr W8
  have f8_1 := f5_1.other W8 (Or.inr (slot_ne (Or.inl (hw _ (List.mem_of_getElem? (i := 12) rfl))) (Or.inl (hw _ (List.mem_of_getElem? (i := 28) rfl))) (by decide) (t := (.array .byte)) (t' := .int) (by decide) (by decide)))
  have f8_2 := f5_2.same W8
  have f8_3 := V5.other W8 (Ne.symm neb)
  have N8 := Fr.snoc X8 N5 gw
  refine gLoadIN X8 hx (hb hby d_prog_13_method_4_41) (pc' := 42) rfl rfl ?_
  refine gI2b X8 hx (hb hby d_prog_13_method_4_42) (pc' := 43) rfl ?_
  refine gBastore X8 hx hZ e8 (x := (p1.toInt8.toInt32)) f8_3 (j := (k' + (1 : Int32))) (own_nn (by omega)) (own_lt (by omega)) (bs.length + 1) hk3 (by rw [List.length_set, List.length_append]; omega) (hb hby d_prog_13_method_4_43) (pc' := 44) rfl (fun T9 h9 X9 e9 W9 A9 => ?_)
  have f9_0 := f8_0.wr W9
  have f9_1 := f8_1.other W9 (Or.inl neb)
  have f9_2 := f8_2.other W9 (Or.inl neb)
  have N9 := Fr.snoc X9 N8 gb
  have V9 : Arv Z h9 b' _ .byte n' (((bs ++ r').set bs.length (.int (nar .byte (((p1.toUInt32 >>> ((8 : Int32) &&& 31).toUInt32).toInt32).toInt8.toInt32)))).set (bs.length + 1) (.int (nar .byte (p1.toInt8.toInt32)))) (.int 0) := A9
  refine gLoadAN X9 hx (hb hby d_prog_13_method_4_44) (pc' := 45) rfl rfl rfl ?_
  exact gRetA X9 hx hlk hret rfl rfl (hb hby d_prog_13_method_4_45) (by decide) (by decide) (⟨rfl, N9, b', ck', n', k' + 1 + 1, r'.drop 2, gw, gb, by rw [e9]; exact Nat.le_trans gz (by rw [W9.size, W8.size, W5.size, W4.size]; exact Nat.le_refl _), by rw [e9]; exact f9_0, by rw [e9]; exact f9_1, by rw [e9]; exact f9_2, by
      have q := V9
      rw [own_nb, own_nb, own_set2 _ _ _ _ hm] at q
      rw [e9]; exact q, by rw [Jvm.Kit.i32_add (by omega) (by omega), t1, ek, List.length_append]; simp; omega, by simp only [List.length_append, List.length_drop, List.length_cons, List.length_nil]; omega, h15, Nat.zero_le _⟩)
theorem d_prog_13_method_5_0 : decode prog_13_method_5_code 0 = .ok (.aload_n 0, 1) := by decide +kernel
theorem d_prog_13_method_5_1 : decode prog_13_method_5_code 1 = .ok (.iload_n 1, 1) := by decide +kernel
theorem d_prog_13_method_5_2 : decode prog_13_method_5_code 2 = .ok (.bipush 16, 2) := by decide +kernel
theorem d_prog_13_method_5_4 : decode prog_13_method_5_code 4 = .ok (.iushr, 1) := by decide +kernel
theorem d_prog_13_method_5_5 : decode prog_13_method_5_code 5 = .ok (.invokevirtual 25, 3) := by decide +kernel
theorem pd_3 : parseMethodDescriptor "(I)Lcom/example/anteroom/anteroom/PayloadWriter;" = some ⟨[.int], some (.object "com/example/anteroom/anteroom/PayloadWriter")⟩ := by decide +kernel
theorem d_prog_13_method_5_8 : decode prog_13_method_5_code 8 = .ok (.pop, 1) := by decide +kernel
theorem d_prog_13_method_5_9 : decode prog_13_method_5_code 9 = .ok (.aload_n 0, 1) := by decide +kernel
theorem d_prog_13_method_5_10 : decode prog_13_method_5_code 10 = .ok (.iload_n 1, 1) := by decide +kernel
theorem d_prog_13_method_5_11 : decode prog_13_method_5_code 11 = .ok (.invokevirtual 25, 3) := by decide +kernel
theorem d_prog_13_method_5_14 : decode prog_13_method_5_code 14 = .ok (.areturn, 1) := by decide +kernel
theorem ef_c_w32 (m : MethodId) (w : Addr) (p1 : Int32) : entryFrame m #[(.ref w), (.int p1)] 2 = mkF m 0 #[.val (.ref w), .val (.int p1)] [] := by first | (simp [entryFrame, mkF, argsToLocals, Value.category]; done) | rfl
set_option maxRecDepth 65536 in
set_option maxHeartbeats 40000000 in
theorem c_w32 (l : Launch) (Z : State) (a0 : Array Value) (hw : ∀ d ∈ tables_1, d.before a0 Z = true) (w : Addr) (p1 : Int32) (bs : List Value) (n0 : Nat) (h0 : Heap) (hB : Buf Z h0 n0 w bs 0) (h4 : bs.length ≤ 4) :
    Ctr l Z (⟨"com/example/anteroom/anteroom/PayloadWriter", "writeInt32", "(I)Lcom/example/anteroom/anteroom/PayloadWriter;"⟩ : MethodName) prog_13_method_5_code 2 (some (.object "com/example/anteroom/anteroom/PayloadWriter")) [] ({ frames := 4, cells := 2, slots := 28, locals := 74 } : Room) #[(.ref w), (.int p1)] h0 (Qw Z w (bs ++ [byteOf (sh (sh p1 16) 8), byteOf (sh p1 16), byteOf (sh p1 8), byteOf p1]) n0) := by
  refine Ctr.of (plainFor_of_name pn_0) ?_
  intro p e s m below meth c s₁ hx hby hml hret hown hnm hZ hlk X0 e0
  refine Goes.cast (ef_c_w32 m w p1) ?_
  have hB0 := hB
  obtain ⟨_, _, _, _, _, _, _, _, E1, -⟩ := hB0
  refine gLoadAN X0 hx (hb hby d_prog_13_method_5_0) (pc' := 1) rfl rfl rfl ?_
  refine gLoadIN X0 hx (hb hby d_prog_13_method_5_1) (pc' := 2) rfl rfl ?_
  refine gBipush X0 hx (v := (16 : Int32)) (hb hby d_prog_13_method_5_2) (pc' := 4) rfl rfl ?_
  refine gIushr X0 hx (hb hby d_prog_13_method_5_4) (pc' := 5) rfl ?_
  refine gCallV X0 hx hZ (y := (⟨"com/example/anteroom/anteroom/PayloadWriter", "writeInt", "(I)Lcom/example/anteroom/anteroom/PayloadWriter;"⟩ : MethodName)) hown e0 (by rw [hml]; rfl) E1 (hw _ (List.mem_of_getElem? (i := 18) rfl)) (hw _ (List.mem_of_getElem? (i := 19) rfl)) (hw _ (List.mem_of_getElem? (i := 21) rfl)) (hw _ (List.mem_of_getElem? (i := 20) rfl)) (hw _ (List.mem_of_getElem? (i := 3) rfl)) (hw _ (List.mem_of_getElem? (i := 22) rfl)) (by decide) (argsL := [(.int ((p1.toUInt32 >>> ((16 : Int32) &&& 31).toUInt32).toInt32))]) (st := []) (c_wr l Z a0 hw w ((p1.toUInt32 >>> ((16 : Int32) &&& 31).toUInt32).toInt32) bs n0 h0 hB (by first | omega | (simp; omega))) (lenOf pd_3 rfl) (hb hby d_prog_13_method_5_5) (pc' := 8) rfl rfl (by decide) (W := 0) (Nat.le_of_eq rfl) (by decide) (by decide) (by decide) ?_
  intro T1 v1 L1 X1 hQ1
  obtain ⟨rfl, Nq1, hB1⟩ := hQ1
  have N1 := Fr.app (Fr.nil n0) Nq1
  have hB1' := hB1
  obtain ⟨_, _, _, _, _, _, _, _, E1, -⟩ := hB1'
  refine gPop X1 hx (hb hby d_prog_13_method_5_8) (pc' := 9) rfl rfl ?_
  refine gLoadAN X1 hx (hb hby d_prog_13_method_5_9) (pc' := 10) rfl rfl rfl ?_
  refine gLoadIN X1 hx (hb hby d_prog_13_method_5_10) (pc' := 11) rfl rfl ?_
  refine gCallV X1 hx hZ (y := (⟨"com/example/anteroom/anteroom/PayloadWriter", "writeInt", "(I)Lcom/example/anteroom/anteroom/PayloadWriter;"⟩ : MethodName)) hown rfl (by rw [hml]; rfl) E1 (hw _ (List.mem_of_getElem? (i := 18) rfl)) (hw _ (List.mem_of_getElem? (i := 19) rfl)) (hw _ (List.mem_of_getElem? (i := 21) rfl)) (hw _ (List.mem_of_getElem? (i := 20) rfl)) (hw _ (List.mem_of_getElem? (i := 3) rfl)) (hw _ (List.mem_of_getElem? (i := 22) rfl)) (by decide) (argsL := [(.int p1)]) (st := []) (c_wr l Z a0 hw w p1 (bs ++ [byteOf (sh (sh p1 16) 8), byteOf (sh p1 16)]) n0 T1.heap hB1 (by first | omega | (simp; omega))) (lenOf pd_3 rfl) (hb hby d_prog_13_method_5_11) (pc' := 14) rfl rfl (by decide) (W := 0) (Nat.le_of_eq rfl) (by decide) (by decide) (by decide) ?_
  intro T2 v2 L2 X2 hQ2
  obtain ⟨rfl, Nq2, hB2⟩ := hQ2
  have N2 := Fr.app N1 Nq2
  exact gRetA X2 hx hlk hret rfl rfl (hb hby d_prog_13_method_5_14) (by decide) (by decide) (⟨rfl, N2, by simpa only [List.append_assoc, List.cons_append, List.nil_append] using hB2⟩)
def Qs (Z : State) (w : Addr) (bs : List Value) (n0 : Nat) (v : Option Value) (h : Heap) (L : List Loc) : Prop := v = none ∧ Fr n0 L ∧ Buf Z h n0 w bs 0
theorem d_prog_13_method_10_0 : decode prog_13_method_10_code 0 = .ok (.aload_n 0, 1) := by decide +kernel
theorem d_prog_13_method_10_1 : decode prog_13_method_10_code 1 = .ok (.getfield 7, 3) := by decide +kernel
theorem d_prog_13_method_10_4 : decode prog_13_method_10_code 4 = .ok (.iload_n 1, 1) := by decide +kernel
theorem d_prog_13_method_10_5 : decode prog_13_method_10_code 5 = .ok (.iload_n 2, 1) := by decide +kernel
theorem d_prog_13_method_10_6 : decode prog_13_method_10_code 6 = .ok (.bipush 8, 2) := by decide +kernel
theorem d_prog_13_method_10_8 : decode prog_13_method_10_code 8 = .ok (.iushr, 1) := by decide +kernel
theorem d_prog_13_method_10_9 : decode prog_13_method_10_code 9 = .ok (.i2b, 1) := by decide +kernel
theorem d_prog_13_method_10_10 : decode prog_13_method_10_code 10 = .ok (.bastore, 1) := by decide +kernel
theorem d_prog_13_method_10_11 : decode prog_13_method_10_code 11 = .ok (.aload_n 0, 1) := by decide +kernel
theorem d_prog_13_method_10_12 : decode prog_13_method_10_code 12 = .ok (.getfield 7, 3) := by decide +kernel
theorem d_prog_13_method_10_15 : decode prog_13_method_10_code 15 = .ok (.iload_n 1, 1) := by decide +kernel
theorem d_prog_13_method_10_16 : decode prog_13_method_10_code 16 = .ok (.iconst 1, 1) := by decide +kernel
theorem d_prog_13_method_10_17 : decode prog_13_method_10_code 17 = .ok (.iadd, 1) := by decide +kernel
theorem d_prog_13_method_10_18 : decode prog_13_method_10_code 18 = .ok (.iload_n 2, 1) := by decide +kernel
theorem d_prog_13_method_10_19 : decode prog_13_method_10_code 19 = .ok (.i2b, 1) := by decide +kernel
theorem d_prog_13_method_10_20 : decode prog_13_method_10_code 20 = .ok (.bastore, 1) := by decide +kernel
theorem d_prog_13_method_10_21 : decode prog_13_method_10_code 21 = .ok (.return_, 1) := by decide +kernel
theorem ef_c_set (m : MethodId) (w : Addr) (off : Int32) (p2 : Int32) : entryFrame m #[(.ref w), (.int off), (.int p2)] 3 = mkF m 0 #[.val (.ref w), .val (.int off), .val (.int p2)] [] := by first | (simp [entryFrame, mkF, argsToLocals, Value.category]; done) | rfl
set_option maxRecDepth 65536 in
set_option maxHeartbeats 40000000 in
theorem c_set (l : Launch) (Z : State) (a0 : Array Value) (hw : ∀ d ∈ tables_1, d.before a0 Z = true) (w : Addr) (off p2 : Int32) (i : Nat) (bs : List Value) (n0 : Nat) (h0 : Heap) (hB : Buf Z h0 n0 w bs 0) (hi : off.toInt = i) (hl : i + 1 < bs.length) (h8 : bs.length ≤ 8) :
    Ctr l Z (⟨"com/example/anteroom/anteroom/PayloadWriter", "setInt", "(II)V"⟩ : MethodName) prog_13_method_10_code 3 none [] ({ frames := 0, cells := 0, slots := 0, locals := 0 } : Room) #[(.ref w), (.int off), (.int p2)] h0 (Qs Z w ((bs.set i (byteOf (sh p2 8))).set (i + 1) (byteOf p2)) n0) := by
  refine Ctr.of (plainFor_of_name pn_0) ?_
  intro p e s m below meth c s₁ hx hby hml hret hown hnm hZ hlk X0 e0
  refine Goes.cast (ef_c_set m w off p2) ?_
  obtain ⟨b, ck, n, k, r, gw, gb, gz, E1, F1, F2, A, hk, hn, h15, hm⟩ := hB
  have neb : w ≠ b := by obtain ⟨cl, Ar, -⟩ := A; exact ne_arr E1 (hw _ (List.mem_of_getElem? (i := 2) rfl)) Ar
  have t1 : (1 : Int32).toInt = 1 := rfl
  have ho := own_clamp (k := off) (n := i) hi
  have eo : (off + (1 : Int32)).toInt = off.toInt + 1 := by rw [Jvm.Kit.i32_add (by omega) (by omega), t1]
  have ho1 : (off + (1 : Int32)).toNatClampNeg = i + 1 := own_clamp (by omega)
  refine gLoadAN X0 hx (hb hby d_prog_13_method_10_0) (pc' := 1) rfl rfl rfl ?_
  refine gGetF X0 hx hZ hown (hw _ (List.mem_of_getElem? (i := 11) rfl)) Via.refl e0 F1 (hb hby d_prog_13_method_10_1) (pc' := 4) rfl (fun T1 X1 e1 => ?_)
  refine gLoadIN X1 hx (hb hby d_prog_13_method_10_4) (pc' := 5) rfl rfl ?_
  refine gLoadIN X1 hx (hb hby d_prog_13_method_10_5) (pc' := 6) rfl rfl ?_
  refine gBipush X1 hx (v := (8 : Int32)) (hb hby d_prog_13_method_10_6) (pc' := 8) rfl rfl ?_
  refine gIushr X1 hx (hb hby d_prog_13_method_10_8) (pc' := 9) rfl ?_
  refine gI2b X1 hx (hb hby d_prog_13_method_10_9) (pc' := 10) rfl ?_
  refine gBastore X1 hx hZ e1 (x := (((p2.toUInt32 >>> ((8 : Int32) &&& 31).toUInt32).toInt32).toInt8.toInt32)) A (j := off) (own_nn (by omega)) (own_lt (by omega)) i ho (by rw [List.length_append]; omega) (hb hby d_prog_13_method_10_10) (pc' := 11) rfl (fun T2 h2 X2 e2 W2 A2 => ?_)
  have f2_0 := E1.wr W2
  have f2_1 := F1.other W2 (Or.inl neb)
  have f2_2 := F2.other W2 (Or.inl neb)
  have N2 := Fr.snoc X2 (Fr.nil n0) gb
  have V2 : Arv Z h2 b _ .byte n ((bs ++ r).set i (.int (nar .byte (((p2.toUInt32 >>> ((8 : Int32) &&& 31).toUInt32).toInt32).toInt8.toInt32)))) (.int 0) := A2
  refine gLoadAN X2 hx (hb hby d_prog_13_method_10_11) (pc' := 12) rfl rfl rfl ?_
  refine gGetF X2 hx hZ hown (hw _ (List.mem_of_getElem? (i := 11) rfl)) Via.refl e2 f2_1 (hb hby d_prog_13_method_10_12) (pc' := 15) rfl (fun T3 X3 e3 => ?_)
  refine gLoadIN X3 hx (hb hby d_prog_13_method_10_15) (pc' := 16) rfl rfl ?_
  refine gIconst X3 hx (v := (1 : Int32)) (hb hby d_prog_13_method_10_16) (pc' := 17) rfl rfl ?_
  refine gIadd X3 hx (hb hby d_prog_13_method_10_17) (pc' := 18) rfl ?_
  refine gLoadIN X3 hx (hb hby d_prog_13_method_10_18) (pc' := 19) rfl rfl ?_
  refine gI2b X3 hx (hb hby d_prog_13_method_10_19) (pc' := 20) rfl ?_
  refine gBastore X3 hx hZ e3 (x := (p2.toInt8.toInt32)) V2 (j := (off + (1 : Int32))) (own_nn (by omega)) (own_lt (by omega)) (i + 1) ho1 (by rw [List.length_set]; rw [List.length_append]; omega) (hb hby d_prog_13_method_10_20) (pc' := 21) rfl (fun T4 h4 X4 e4 W4 A4 => ?_)
  have f4_0 := f2_0.wr W4
  have f4_1 := f2_1.other W4 (Or.inl neb)
  have f4_2 := f2_2.other W4 (Or.inl neb)
  have N4 := Fr.snoc X4 N2 gb
  have V4 : Arv Z h4 b _ .byte n (((bs ++ r).set i (.int (nar .byte (((p2.toUInt32 >>> ((8 : Int32) &&& 31).toUInt32).toInt32).toInt8.toInt32)))).set (i + 1) (.int (nar .byte (p2.toInt8.toInt32)))) (.int 0) := A4
  exact gRetV X4 hx hlk hret (hb hby d_prog_13_method_10_21) (by decide) (by decide) (⟨rfl, N4, b, ck, n, k, r, gw, gb, by rw [e4]; exact Nat.le_trans gz (by rw [W4.size, W2.size]; exact Nat.le_refl _), by rw [e4]; exact f4_0, by rw [e4]; exact f4_1, by rw [e4]; exact f4_2, by
      have q := V4
      rw [own_nb, own_nb, List.set_append_left _ _ (by omega), List.set_append_left _ _ (by rw [List.length_set]; omega)] at q
      rw [e4]; exact q, by simp; omega, by simp; omega, h15, hm⟩)
theorem d_prog_13_method_12_0 : decode prog_13_method_12_code 0 = .ok (.aload_n 0, 1) := by decide +kernel
theorem d_prog_13_method_12_1 : decode prog_13_method_12_code 1 = .ok (.getfield 7, 3) := by decide +kernel
theorem d_prog_13_method_12_4 : decode prog_13_method_12_code 4 = .ok (.areturn, 1) := by decide +kernel
theorem ef_c_arr (m : MethodId) (w : Addr) : entryFrame m #[(.ref w)] 1 = mkF m 0 #[.val (.ref w)] [] := by first | (simp [entryFrame, mkF, argsToLocals, Value.category]; done) | rfl
set_option maxRecDepth 65536 in
set_option maxHeartbeats 40000000 in
theorem c_arr (l : Launch) (Z : State) (a0 : Array Value) (hw : ∀ d ∈ tables_1, d.before a0 Z = true) (w b : Addr) (k : Int32) (h0 : Heap) (F1 : Fld Z h0 w "com/example/anteroom/anteroom/PayloadWriter" "octets" "[B" (.ref b)) :
    Ctr l Z (⟨"com/example/anteroom/anteroom/PayloadWriter", "array", "()[B"⟩ : MethodName) prog_13_method_12_code 1 (some (.array .byte)) [] ({ frames := 0, cells := 0, slots := 0, locals := 0 } : Room) #[(.ref w)] h0 (Just h0 (.ref b)) := by
  refine Ctr.of (plainFor_of_name pn_0) ?_
  intro p e s m below meth c s₁ hx hby hml hret hown hnm hZ hlk X0 e0
  refine Goes.cast (ef_c_arr m w) ?_
  refine gLoadAN X0 hx (hb hby d_prog_13_method_12_0) (pc' := 1) rfl rfl rfl ?_
  refine gGetF X0 hx hZ hown (hw _ (List.mem_of_getElem? (i := 11) rfl)) Via.refl e0 F1 (hb hby d_prog_13_method_12_1) (pc' := 4) rfl (fun T1 X1 e1 => ?_)
  exact gRetA X1 hx hlk hret rfl rfl (hb hby d_prog_13_method_12_4) (by decide) (by decide) (⟨rfl, e1, rfl⟩)
theorem d_prog_13_method_13_0 : decode prog_13_method_13_code 0 = .ok (.aload_n 0, 1) := by decide +kernel
theorem d_prog_13_method_13_1 : decode prog_13_method_13_code 1 = .ok (.getfield 17, 3) := by decide +kernel
theorem d_prog_13_method_13_4 : decode prog_13_method_13_code 4 = .ok (.ireturn, 1) := by decide +kernel
theorem ef_c_len (m : MethodId) (w : Addr) : entryFrame m #[(.ref w)] 1 = mkF m 0 #[.val (.ref w)] [] := by first | (simp [entryFrame, mkF, argsToLocals, Value.category]; done) | rfl
set_option maxRecDepth 65536 in
set_option maxHeartbeats 40000000 in
theorem c_len (l : Launch) (Z : State) (a0 : Array Value) (hw : ∀ d ∈ tables_1, d.before a0 Z = true) (w b : Addr) (k : Int32) (h0 : Heap) (F1 : Fld Z h0 w "com/example/anteroom/anteroom/PayloadWriter" "length" "I" (.int k)) :
    Ctr l Z (⟨"com/example/anteroom/anteroom/PayloadWriter", "length", "()I"⟩ : MethodName) prog_13_method_13_code 1 (some .int) [] ({ frames := 0, cells := 0, slots := 0, locals := 0 } : Room) #[(.ref w)] h0 (Just h0 (.int k)) := by
  refine Ctr.of (plainFor_of_name pn_0) ?_
  intro p e s m below meth c s₁ hx hby hml hret hown hnm hZ hlk X0 e0
  refine Goes.cast (ef_c_len m w) ?_
  refine gLoadAN X0 hx (hb hby d_prog_13_method_13_0) (pc' := 1) rfl rfl rfl ?_
  refine gGetF X0 hx hZ hown (hw _ (List.mem_of_getElem? (i := 27) rfl)) Via.refl e0 F1 (hb hby d_prog_13_method_13_1) (pc' := 4) rfl (fun T1 X1 e1 => ?_)
  exact gRetI X1 hx hlk hret (hb hby d_prog_13_method_13_4) (by decide) (by decide) (⟨rfl, e1, rfl⟩)
theorem d_prog_13_method_1_0 : decode prog_13_method_1_code 0 = .ok (.aload_n 0, 1) := by decide +kernel
theorem d_prog_13_method_1_1 : decode prog_13_method_1_code 1 = .ok (.invokespecial 1, 3) := by decide +kernel
theorem d_prog_13_method_1_4 : decode prog_13_method_1_code 4 = .ok (.aload_n 0, 1) := by decide +kernel
theorem d_prog_13_method_1_5 : decode prog_13_method_1_code 5 = .ok (.iload_n 1, 1) := by decide +kernel
theorem d_prog_13_method_1_6 : decode prog_13_method_1_code 6 = .ok (.newarray .byte, 2) := by decide +kernel
theorem d_prog_13_method_1_8 : decode prog_13_method_1_code 8 = .ok (.putfield 7, 3) := by decide +kernel
theorem d_prog_13_method_1_11 : decode prog_13_method_1_code 11 = .ok (.return_, 1) := by decide +kernel
theorem ef_c_init (m : MethodId) (w : Addr) (p1 : Int32) : entryFrame m #[(.ref w), (.int p1)] 2 = mkF m 0 #[.val (.ref w), .val (.int p1)] [] := by first | (simp [entryFrame, mkF, argsToLocals, Value.category]; done) | rfl
set_option maxRecDepth 65536 in
set_option maxHeartbeats 40000000 in
theorem c_init (l : Launch) (Z : State) (a0 : Array Value) (hw : ∀ d ∈ tables_1, d.before a0 Z = true) (w : Addr) (p1 : Int32) (n0 : Nat) (h0 : Heap) (gw : n0 ≤ w) (gz : n0 ≤ h0.size) (h0p : 0 ≤ p1.toInt) (h15 : p1.toInt ≤ 15) (E1 : Exa Z h0 w "com/example/anteroom/anteroom/PayloadWriter") (F1 : Fld Z h0 w "com/example/anteroom/anteroom/PayloadWriter" "octets" "[B" .null) (F2 : Fld Z h0 w "com/example/anteroom/anteroom/PayloadWriter" "length" "I" (.int 0)) :
    Ctr l Z (⟨"com/example/anteroom/anteroom/PayloadWriter", "<init>", "(I)V"⟩ : MethodName) prog_13_method_1_code 2 none [] ({ frames := 1, cells := 1, slots := 15, locals := 12 } : Room) #[(.ref w), (.int p1)] h0 (Qs Z w [] n0) := by
  refine Ctr.of (plainFor_of_name pn_0) ?_
  intro p e s m below meth c s₁ hx hby hml hret hown hnm hZ hlk X0 e0
  refine Goes.cast (ef_c_init m w p1) ?_
  refine gLoadAN X0 hx (hb hby d_prog_13_method_1_0) (pc' := 1) rfl rfl rfl ?_
  refine gInitO X0 hx hZ hown (hw _ (List.mem_of_getElem? (i := 7) rfl)) (hw _ (List.mem_of_getElem? (i := 8) rfl)) (hw _ (List.mem_of_getElem? (i := 9) rfl)) e0 (by rw [hml]; rfl) (hb hby d_prog_13_method_1_1) (pc' := 4) rfl (by decide) (W := 0) (Nat.le_of_eq rfl) (by decide) (fun T1 X1 e1 => ?_)
  refine gLoadAN X1 hx (hb hby d_prog_13_method_1_4) (pc' := 5) rfl rfl rfl ?_
  refine gLoadIN X1 hx (hb hby d_prog_13_method_1_5) (pc' := 6) rfl rfl ?_
  refine gNewP X1 hx hZ (hw _ (List.mem_of_getElem? (i := 10) rfl)) e1 (n := p1) (hb hby d_prog_13_method_1_6) (own_nn (by omega)) (cap := 15) (by rw [own_clamp (n := p1.toInt.toNat) (by omega)]; omega) (by decide) (by decide) (by decide) p1.toNatClampNeg (pc' := 8) rfl (fun T2 h2 b2 ck2 X2 e2 g2 E2 A2 => ?_)
  have ne_w_b2 : w ≠ b2 := Nat.ne_of_lt (Nat.lt_of_lt_of_eq E1.lt g2.symm)
  have f2_0 := E1.ext E2
  have f2_1 := F1.ext E2
  have f2_2 := F2.ext E2
  have sz_b2 : h0.size ≤ b2 := Nat.le_trans (Nat.le_refl _) (Nat.le_of_eq g2.symm)
  have zs2 : h0.size ≤ h2.size := Nat.le_trans (Nat.le_refl _) E2.1
  have V2 : Arv Z h2 b2 ck2 .byte p1 (List.replicate p1.toNatClampNeg (.int (0 : Int32))) (.int (0 : Int32)) := A2
  refine gPutF X2 hx hZ hown (hw _ (List.mem_of_getElem? (i := 11) rfl)) Via.refl e2 f2_1 f2_0 (Or.inl (hw _ (List.mem_of_getElem? (i := 12) rfl))) (hw _ (List.mem_of_getElem? (i := 2) rfl)) (ty := (.array .byte)) (by decide) rfl rfl (hb hby d_prog_13_method_1_8) (pc' := 11) rfl (fun T3 h3 X3 e3 W3 => ?_)
  have f3_0 := f2_0.wr W3
  have f3_1 := f2_1.same W3
  have f3_2 := f2_2.other W3 (Or.inr (slot_ne (Or.inl (hw _ (List.mem_of_getElem? (i := 28) rfl))) (Or.inl (hw _ (List.mem_of_getElem? (i := 12) rfl))) (by decide) (t := .int) (t' := (.array .byte)) (by decide) (by decide)))
  have f3_3 := V2.other W3 (Ne.symm ne_w_b2)
  have zs3 : h0.size ≤ h3.size := by rw [W3.size]; exact zs2
  have N3 := Fr.snoc X3 (Fr.nil n0) gw
  exact gRetV X3 hx hlk hret (hb hby d_prog_13_method_1_11) (by decide) (by decide) (⟨rfl, N3, b2, _, p1, 0, List.replicate p1.toNatClampNeg (.int 0), gw, Nat.le_trans gz sz_b2, by rw [e3]; exact Nat.le_trans gz zs3, by rw [e3]; exact f3_0, by rw [e3]; exact f3_1, by rw [e3]; exact f3_2, by rw [e3]; exact f3_3, rfl, by simp only [List.length_nil, List.length_replicate]; rw [own_clamp (n := p1.toInt.toNat) (by omega)]; omega, by omega, Nat.zero_le _⟩)
def ex (i a b off v : Int32) : Int32 := if i = off then (sh v 8).toInt8.toInt32 else if i = off + 1 then v.toInt8.toInt32 else if i.toInt < 4 then (sh a (24 - 8 * i)).toInt8.toInt32 else (sh b (24 - 8 * (i - 4))).toInt8.toInt32
theorem d_method_2_0 : decode method_2_code 0 = .ok (.iload_n 0, 1) := by decide +kernel
theorem d_method_2_1 : decode method_2_code 1 = .ok (.iload_n 3, 1) := by decide +kernel
theorem d_method_2_2 : decode method_2_code 2 = .ok (.if_icmp .ne 10, 3) := by decide +kernel
theorem d_method_2_12 : decode method_2_code 12 = .ok (.iload_n 0, 1) := by decide +kernel
theorem d_method_2_13 : decode method_2_code 13 = .ok (.iload_n 3, 1) := by decide +kernel
theorem d_method_2_14 : decode method_2_code 14 = .ok (.iconst 1, 1) := by decide +kernel
theorem d_method_2_15 : decode method_2_code 15 = .ok (.iadd, 1) := by decide +kernel
theorem d_method_2_16 : decode method_2_code 16 = .ok (.if_icmp .ne 7, 3) := by decide +kernel
theorem d_method_2_23 : decode method_2_code 23 = .ok (.iload_n 0, 1) := by decide +kernel
theorem d_method_2_24 : decode method_2_code 24 = .ok (.iconst 4, 1) := by decide +kernel
theorem d_method_2_25 : decode method_2_code 25 = .ok (.if_icmp .ge 14, 3) := by decide +kernel
theorem d_method_2_39 : decode method_2_code 39 = .ok (.iload_n 2, 1) := by decide +kernel
theorem d_method_2_40 : decode method_2_code 40 = .ok (.bipush 24, 2) := by decide +kernel
theorem d_method_2_42 : decode method_2_code 42 = .ok (.bipush 8, 2) := by decide +kernel
theorem d_method_2_44 : decode method_2_code 44 = .ok (.iload_n 0, 1) := by decide +kernel
theorem d_method_2_45 : decode method_2_code 45 = .ok (.iconst 4, 1) := by decide +kernel
theorem d_method_2_46 : decode method_2_code 46 = .ok (.isub, 1) := by decide +kernel
theorem d_method_2_47 : decode method_2_code 47 = .ok (.imul, 1) := by decide +kernel
theorem d_method_2_48 : decode method_2_code 48 = .ok (.isub, 1) := by decide +kernel
theorem d_method_2_49 : decode method_2_code 49 = .ok (.iushr, 1) := by decide +kernel
theorem d_method_2_50 : decode method_2_code 50 = .ok (.i2b, 1) := by decide +kernel
theorem d_method_2_51 : decode method_2_code 51 = .ok (.ireturn, 1) := by decide +kernel
theorem d_method_2_28 : decode method_2_code 28 = .ok (.iload_n 1, 1) := by decide +kernel
theorem d_method_2_29 : decode method_2_code 29 = .ok (.bipush 24, 2) := by decide +kernel
theorem d_method_2_31 : decode method_2_code 31 = .ok (.bipush 8, 2) := by decide +kernel
theorem d_method_2_33 : decode method_2_code 33 = .ok (.iload_n 0, 1) := by decide +kernel
theorem d_method_2_34 : decode method_2_code 34 = .ok (.imul, 1) := by decide +kernel
theorem d_method_2_35 : decode method_2_code 35 = .ok (.isub, 1) := by decide +kernel
theorem d_method_2_36 : decode method_2_code 36 = .ok (.iushr, 1) := by decide +kernel
theorem d_method_2_37 : decode method_2_code 37 = .ok (.i2b, 1) := by decide +kernel
theorem d_method_2_38 : decode method_2_code 38 = .ok (.ireturn, 1) := by decide +kernel
theorem d_method_2_19 : decode method_2_code 19 = .ok (.iload 4, 2) := by decide +kernel
theorem d_method_2_21 : decode method_2_code 21 = .ok (.i2b, 1) := by decide +kernel
theorem d_method_2_22 : decode method_2_code 22 = .ok (.ireturn, 1) := by decide +kernel
theorem d_method_2_5 : decode method_2_code 5 = .ok (.iload 4, 2) := by decide +kernel
theorem d_method_2_7 : decode method_2_code 7 = .ok (.bipush 8, 2) := by decide +kernel
theorem d_method_2_9 : decode method_2_code 9 = .ok (.iushr, 1) := by decide +kernel
theorem d_method_2_10 : decode method_2_code 10 = .ok (.i2b, 1) := by decide +kernel
theorem d_method_2_11 : decode method_2_code 11 = .ok (.ireturn, 1) := by decide +kernel
theorem pn_1 : plainName "com/example/anteroom/anteroom/PayloadWriterSetIntPinLaw" = true := by first | (simp [plainName, overriddenIn]; done) | decide +kernel
theorem ef_c_ex (m : MethodId) (p0 : Int32) (p1 : Int32) (p2 : Int32) (p3 : Int32) (p4 : Int32) : entryFrame m #[(.int p0), (.int p1), (.int p2), (.int p3), (.int p4)] 5 = mkF m 0 #[.val (.int p0), .val (.int p1), .val (.int p2), .val (.int p3), .val (.int p4)] [] := by first | (simp [entryFrame, mkF, argsToLocals, Value.category]; done) | rfl
set_option maxRecDepth 65536 in
set_option maxHeartbeats 40000000 in
theorem c_ex (l : Launch) (Z : State) (a0 : Array Value) (hw : ∀ d ∈ tables_1, d.before a0 Z = true) (p0 p1 p2 p3 p4 : Int32) (h0 : Heap)  :
    Ctr l Z (⟨"com/example/anteroom/anteroom/PayloadWriterSetIntPinLaw", "expect", "(IIIII)B"⟩ : MethodName) method_2_code 5 (some .byte) [] ({ frames := 0, cells := 0, slots := 0, locals := 0 } : Room) #[(.int p0), (.int p1), (.int p2), (.int p3), (.int p4)] h0 (Just h0 (.int (ex p0 p1 p2 p3 p4))) := by
  refine Ctr.of (plainFor_of_name pn_1) ?_
  intro p e s m below meth c s₁ hx hby hml hret hown hnm hZ hlk X0 e0
  refine Goes.cast (ef_c_ex m p0 p1 p2 p3 p4) ?_
  refine gLoadIN X0 hx (hb hby d_method_2_0) (pc' := 1) rfl rfl ?_
  refine gLoadIN X0 hx (hb hby d_method_2_1) (pc' := 2) rfl rfl ?_
  refine gIcmpNe X0 hx (hb hby d_method_2_2) (pc' := 12) (by decide) (by decide) (pn := 5) rfl (fun (c2 : ¬ p0 = p3) => ?_) (fun (c2 : p0 = p3) => ?_)
  · refine gLoadIN X0 hx (hb hby d_method_2_12) (pc' := 13) rfl rfl ?_
    refine gLoadIN X0 hx (hb hby d_method_2_13) (pc' := 14) rfl rfl ?_
    refine gIconst X0 hx (v := (1 : Int32)) (hb hby d_method_2_14) (pc' := 15) rfl rfl ?_
    refine gIadd X0 hx (hb hby d_method_2_15) (pc' := 16) rfl ?_
    refine gIcmpNe X0 hx (hb hby d_method_2_16) (pc' := 23) (by decide) (by decide) (pn := 19) rfl (fun (c16 : ¬ p0 = (p3 + (1 : Int32))) => ?_) (fun (c16 : p0 = (p3 + (1 : Int32))) => ?_)
    · refine gLoadIN X0 hx (hb hby d_method_2_23) (pc' := 24) rfl rfl ?_
      refine gIconst X0 hx (v := (4 : Int32)) (hb hby d_method_2_24) (pc' := 25) rfl rfl ?_
      refine gIcmpGe X0 hx (hb hby d_method_2_25) (pc' := 39) (by decide) (by decide) (pn := 28) rfl (fun (c25 : (4 : Int) ≤ p0.toInt) => ?_) (fun (c25 : p0.toInt < (4 : Int)) => ?_)
      · refine gLoadIN X0 hx (hb hby d_method_2_39) (pc' := 40) rfl rfl ?_
        refine gBipush X0 hx (v := (24 : Int32)) (hb hby d_method_2_40) (pc' := 42) rfl rfl ?_
        refine gBipush X0 hx (v := (8 : Int32)) (hb hby d_method_2_42) (pc' := 44) rfl rfl ?_
        refine gLoadIN X0 hx (hb hby d_method_2_44) (pc' := 45) rfl rfl ?_
        refine gIconst X0 hx (v := (4 : Int32)) (hb hby d_method_2_45) (pc' := 46) rfl rfl ?_
        refine gIsub X0 hx (hb hby d_method_2_46) (pc' := 47) rfl ?_
        refine gImul X0 hx (hb hby d_method_2_47) (pc' := 48) rfl ?_
        refine gIsub X0 hx (hb hby d_method_2_48) (pc' := 49) rfl ?_
        refine gIushr X0 hx (hb hby d_method_2_49) (pc' := 50) rfl ?_
        refine gI2b X0 hx (hb hby d_method_2_50) (pc' := 51) rfl ?_
        exact gRetN X0 hx hlk hret (by simp) (hb hby d_method_2_51) (w := (((p2.toUInt32 >>> (((24 : Int32) - ((8 : Int32) * (p0 - (4 : Int32)))) &&& 31).toUInt32).toInt32).toInt8.toInt32)) (own_nb _) (by decide) (by decide) (⟨by rw [ex, if_neg c2, if_neg c16, if_neg (by omega)] <;> rfl, e0, rfl⟩)
      · refine gLoadIN X0 hx (hb hby d_method_2_28) (pc' := 29) rfl rfl ?_
        refine gBipush X0 hx (v := (24 : Int32)) (hb hby d_method_2_29) (pc' := 31) rfl rfl ?_
        refine gBipush X0 hx (v := (8 : Int32)) (hb hby d_method_2_31) (pc' := 33) rfl rfl ?_
        refine gLoadIN X0 hx (hb hby d_method_2_33) (pc' := 34) rfl rfl ?_
        refine gImul X0 hx (hb hby d_method_2_34) (pc' := 35) rfl ?_
        refine gIsub X0 hx (hb hby d_method_2_35) (pc' := 36) rfl ?_
        refine gIushr X0 hx (hb hby d_method_2_36) (pc' := 37) rfl ?_
        refine gI2b X0 hx (hb hby d_method_2_37) (pc' := 38) rfl ?_
        exact gRetN X0 hx hlk hret (by simp) (hb hby d_method_2_38) (w := (((p1.toUInt32 >>> (((24 : Int32) - ((8 : Int32) * p0)) &&& 31).toUInt32).toInt32).toInt8.toInt32)) (own_nb _) (by decide) (by decide) (⟨by rw [ex, if_neg c2, if_neg c16, if_pos (by omega)] <;> rfl, e0, rfl⟩)
    · refine gLoadI X0 hx (hb hby d_method_2_19) (pc' := 21) rfl rfl ?_
      refine gI2b X0 hx (hb hby d_method_2_21) (pc' := 22) rfl ?_
      exact gRetN X0 hx hlk hret (by simp) (hb hby d_method_2_22) (w := (p4.toInt8.toInt32)) (own_nb _) (by decide) (by decide) (⟨by rw [ex, if_neg c2, if_pos c16] <;> rfl, e0, rfl⟩)
  · refine gLoadI X0 hx (hb hby d_method_2_5) (pc' := 7) rfl rfl ?_
    refine gBipush X0 hx (v := (8 : Int32)) (hb hby d_method_2_7) (pc' := 9) rfl rfl ?_
    refine gIushr X0 hx (hb hby d_method_2_9) (pc' := 10) rfl ?_
    refine gI2b X0 hx (hb hby d_method_2_10) (pc' := 11) rfl ?_
    exact gRetN X0 hx hlk hret (by simp) (hb hby d_method_2_11) (w := (((p4.toUInt32 >>> ((8 : Int32) &&& 31).toUInt32).toInt32).toInt8.toInt32)) (own_nb _) (by decide) (by decide) (⟨by rw [ex, if_pos c2] <;> rfl, e0, rfl⟩)
theorem own_rem (x : Int32) : (x &&& 2147483647) % 7 = 0 ∨ (x &&& 2147483647) % 7 = 1 ∨ (x &&& 2147483647) % 7 = 2 ∨ (x &&& 2147483647) % 7 = 3 ∨ (x &&& 2147483647) % 7 = 4 ∨ (x &&& 2147483647) % 7 = 5 ∨ (x &&& 2147483647) % 7 = 6 := by
  have e1 : (x &&& 2147483647).toInt = x.toInt % 2 ^ 31 := Jvm.Kit.i32_mask x 2147483647 (by decide) (by decide)
  have e2 : ((x &&& 2147483647) % 7).toInt = (x &&& 2147483647).toInt % 7 := Jvm.Kit.i32_rem_nonneg (by omega)
  simp only [← Int32.toInt_inj, e2]
  have t0 : (0 : Int32).toInt = 0 := rfl
  have t1 : (1 : Int32).toInt = 1 := rfl
  have t2 : (2 : Int32).toInt = 2 := rfl
  have t3 : (3 : Int32).toInt = 3 := rfl
  have t4 : (4 : Int32).toInt = 4 := rfl
  have t5 : (5 : Int32).toInt = 5 := rfl
  have t6 : (6 : Int32).toInt = 6 := rfl
  omega
theorem own_15 (x : Int32) : 0 ≤ (x &&& 15).toInt ∧ (x &&& 15).toInt ≤ 15 := by
  have e : (x &&& 15).toInt = x.toInt % 2 ^ 4 := Jvm.Kit.i32_mask x 15 (by decide) (by decide)
  omega
theorem own_b0 (a : Int32) : (sh (sh a 16) 8).toInt8.toInt32 = (sh a (24 - 8 * 0)).toInt8.toInt32 := by
  have : sh (sh a 16) 8 = sh a (24 - 8 * 0) := own_ush24 a
  rw [this]
theorem own_b3 (a : Int32) : a.toInt8.toInt32 = (sh a (24 - 8 * 3)).toInt8.toInt32 := by
  have : sh a (24 - 8 * 3) = a := own_ush0 a
  rw [this]
theorem pd_6 : parseMethodDescriptor "(II)V" = some ⟨[.int, .int], none⟩ := by decide +kernel
theorem pd_2 : parseMethodDescriptor "()[B" = some ⟨[], some (.array .byte)⟩ := by decide +kernel
theorem pd_0 : parseMethodDescriptor "()I" = some ⟨[], some .int⟩ := by decide +kernel
theorem pd_7 : parseMethodDescriptor "(IIIII)B" = some ⟨[.int, .int, .int, .int, .int], some .byte⟩ := by decide +kernel
theorem ef_c_law (m : MethodId) (p0 : Int32) (p1 : Int32) (p2 : Int32) (p3 : Int32) (p4 : Int32) : entryFrame m #[(.int p0), (.int p1), (.int p2), (.int p3), (.int p4)] 11 = mkF m 0 #[.val (.int p0), .val (.int p1), .val (.int p2), .val (.int p3), .val (.int p4), .unset, .unset, .unset, .unset, .unset, .unset] [] := by first | (simp [entryFrame, mkF, argsToLocals, Value.category]; done) | rfl
set_option maxRecDepth 65536 in
set_option maxHeartbeats 40000000 in
theorem c_law (l : Launch) (Z : State) (a0 : Array Value) (hw : ∀ d ∈ tables_1, d.before a0 Z = true) (p0 p1 p2 p3 p4 : Int32) (h0 : Heap)  :
    Ctr l Z x code maxLocals ret tables_1 room_1 #[(.int p0), (.int p1), (.int p2), (.int p3), (.int p4)] h0 (Law1 h0) := by
  refine Ctr.of (plainFor_of_name pn_1) ?_
  intro p e s m below meth c s₁ hx hby hml hret hown hnm hZ hlk X0 e0
  replace hml : c.maxLocals = 11 := hml
  refine Goes.cast (ef_c_law m p0 p1 p2 p3 p4) ?_
  refine gLoadIN X0 hx (hb hby at_0) (pc' := 1) rfl rfl ?_
  refine gBipush X0 hx (v := (15 : Int32)) (hb hby at_1) (pc' := 3) rfl rfl ?_
  refine gIand X0 hx (hb hby at_3) (pc' := 4) rfl ?_
  generalize hg_cap : (p0 &&& (15 : Int32)) = cap
  have hcap : 0 ≤ cap.toInt ∧ cap.toInt ≤ 15 := by rw [← hg_cap]; exact own_15 _
  refine gStoreI X0 hx (hb hby at_4) (l' := #[.val (.int p0), .val (.int p1), .val (.int p2), .val (.int p3), .val (.int p4), .val (.int cap), .unset, .unset, .unset, .unset, .unset]) (pc' := 6) rfl rfl ?_
  refine gLoadIN X0 hx (hb hby at_6) (pc' := 7) rfl rfl ?_
  refine gLdc X0 hx hZ hown (hw _ (List.mem_of_getElem? (i := 0) rfl)) (hb hby at_7) (pc' := 9) rfl ?_
  refine gIand X0 hx (hb hby at_9) (pc' := 10) rfl ?_
  refine gBipush X0 hx (v := (7 : Int32)) (hb hby at_10) (pc' := 12) rfl rfl ?_
  refine gIrem X0 hx (hb hby at_12) (pc' := 13) (by decide) rfl ?_
  rcases own_rem p3 with hk | hk | hk | hk | hk | hk | hk <;> rw [hk]
  · refine gStoreI X0 hx (hb hby at_13) (l' := #[.val (.int p0), .val (.int p1), .val (.int p2), .val (.int p3), .val (.int p4), .val (.int cap), .val (.int (0 : Int32)), .unset, .unset, .unset, .unset]) (pc' := 15) rfl rfl ?_
    refine gNew X0 hx hZ hown (hw _ (List.mem_of_getElem? (i := 1) rfl)) (hw _ (List.mem_of_getElem? (i := 2) rfl)) (hw _ (List.mem_of_getElem? (i := 3) rfl)) e0 (hb hby at_15) (pc' := 18) rfl (by decide) (by decide) (fun T1 h1 b1 X1 e1 g1 E1 A1 D1 => ?_)
    have sz_b1 : h0.size ≤ b1 := Nat.le_trans (Nat.le_refl _) (Nat.le_of_eq g1.symm)
    have zs1 : h0.size ≤ h1.size := Nat.le_trans (Nat.le_refl _) E1.1
    have F1_octets : Fld Z h1 b1 "com/example/anteroom/anteroom/PayloadWriter" "octets" "[B" .null := D1 (Or.inl (hw _ (List.mem_of_getElem? (i := 12) rfl))) (ty := (.array .byte)) (by decide)
    have F1_length : Fld Z h1 b1 "com/example/anteroom/anteroom/PayloadWriter" "length" "I" (.int (0 : Int32)) := D1 (Or.inl (hw _ (List.mem_of_getElem? (i := 28) rfl))) (ty := .int) (by decide)
    refine gDup X1 hx (hb hby at_18) (pc' := 19) rfl rfl ?_
    refine gLoadI X1 hx (hb hby at_19) (pc' := 21) rfl rfl ?_
    refine gCallI X1 hx hZ (y := (⟨"com/example/anteroom/anteroom/PayloadWriter", "<init>", "(I)V"⟩ : MethodName)) rfl hown e1 (by rw [hml]; rfl) (hw _ (List.mem_of_getElem? (i := 4) rfl)) (hw _ (List.mem_of_getElem? (i := 5) rfl)) (hw _ (List.mem_of_getElem? (i := 3) rfl)) (hw _ (List.mem_of_getElem? (i := 6) rfl)) (by decide) (argsL := [(.int cap)]) (st := [(.ref b1)]) (c_init l Z a0 hw b1 cap h0.size h1 sz_b1 zs1 hcap.1 hcap.2 A1 F1_octets F1_length) (lenOf pd_4 rfl) (hb hby at_21) (pc' := 24) rfl rfl (by decide) (W := 1) (Nat.le_of_eq rfl) (by decide) (by decide) (by decide) ?_
    intro T2 v2 L2 X2 hQ2
    obtain ⟨rfl, Nq2, hB2⟩ := hQ2
    have N2 := Fr.app (Fr.nil h0.size) Nq2
    have hb2 := hB2
    obtain ⟨_, _, _, _, _, _, _, _, E2, -⟩ := hb2
    refine gStoreA X2 hx (hb hby at_24) (l' := #[.val (.int p0), .val (.int p1), .val (.int p2), .val (.int p3), .val (.int p4), .val (.int cap), .val (.int (0 : Int32)), .val (.ref b1), .unset, .unset, .unset]) (pc' := 26) rfl rfl rfl ?_
    refine gLoadA X2 hx (hb hby at_26) (pc' := 28) rfl rfl rfl ?_
    refine gLoadIN X2 hx (hb hby at_28) (pc' := 29) rfl rfl ?_
    refine gCallV X2 hx hZ (y := (⟨"com/example/anteroom/anteroom/PayloadWriter", "writeInt32", "(I)Lcom/example/anteroom/anteroom/PayloadWriter;"⟩ : MethodName)) hown rfl (by rw [hml]; rfl) E2 (hw _ (List.mem_of_getElem? (i := 13) rfl)) (hw _ (List.mem_of_getElem? (i := 14) rfl)) (hw _ (List.mem_of_getElem? (i := 16) rfl)) (hw _ (List.mem_of_getElem? (i := 15) rfl)) (hw _ (List.mem_of_getElem? (i := 3) rfl)) (hw _ (List.mem_of_getElem? (i := 17) rfl)) (by decide) (argsL := [(.int p1)]) (st := []) (c_w32 l Z a0 hw b1 p1 [] h0.size T2.heap hB2 (by simp)) (lenOf pd_3 rfl) (hb hby at_29) (pc' := 32) rfl rfl (by decide) (W := 0) (Nat.le_of_eq rfl) (by decide) (by decide) (by decide) ?_
    intro T3 v3 L3 X3 hQ3
    obtain ⟨rfl, Nq3, hB3⟩ := hQ3
    have N3 := Fr.app N2 Nq3
    have hb3 := hB3
    obtain ⟨_, _, _, _, _, _, _, _, E3, -⟩ := hb3
    refine gPop X3 hx (hb hby at_32) (pc' := 33) rfl rfl ?_
    refine gLoadA X3 hx (hb hby at_33) (pc' := 35) rfl rfl rfl ?_
    refine gLoadIN X3 hx (hb hby at_35) (pc' := 36) rfl rfl ?_
    refine gCallV X3 hx hZ (y := (⟨"com/example/anteroom/anteroom/PayloadWriter", "writeInt32", "(I)Lcom/example/anteroom/anteroom/PayloadWriter;"⟩ : MethodName)) hown rfl (by rw [hml]; rfl) E3 (hw _ (List.mem_of_getElem? (i := 13) rfl)) (hw _ (List.mem_of_getElem? (i := 14) rfl)) (hw _ (List.mem_of_getElem? (i := 16) rfl)) (hw _ (List.mem_of_getElem? (i := 15) rfl)) (hw _ (List.mem_of_getElem? (i := 3) rfl)) (hw _ (List.mem_of_getElem? (i := 17) rfl)) (by decide) (argsL := [(.int p2)]) (st := []) (c_w32 l Z a0 hw b1 p2 [byteOf (sh (sh p1 16) 8), byteOf (sh p1 16), byteOf (sh p1 8), byteOf p1] h0.size T3.heap hB3 (by simp)) (lenOf pd_3 rfl) (hb hby at_36) (pc' := 39) rfl rfl (by decide) (W := 0) (Nat.le_of_eq rfl) (by decide) (by decide) (by decide) ?_
    intro T4 v4 L4 X4 hQ4
    obtain ⟨rfl, Nq4, hB4⟩ := hQ4
    have N4 := Fr.app N3 Nq4
    have hb4 := hB4
    obtain ⟨_, _, _, _, _, _, _, _, E4, -⟩ := hb4
    refine gPop X4 hx (hb hby at_39) (pc' := 40) rfl rfl ?_
    refine gLoadA X4 hx (hb hby at_40) (pc' := 42) rfl rfl rfl ?_
    refine gLoadI X4 hx (hb hby at_42) (pc' := 44) rfl rfl ?_
    refine gLoadI X4 hx (hb hby at_44) (pc' := 46) rfl rfl ?_
    refine gCallV X4 hx hZ (y := (⟨"com/example/anteroom/anteroom/PayloadWriter", "setInt", "(II)V"⟩ : MethodName)) hown rfl (by rw [hml]; rfl) E4 (hw _ (List.mem_of_getElem? (i := 44) rfl)) (hw _ (List.mem_of_getElem? (i := 45) rfl)) (hw _ (List.mem_of_getElem? (i := 47) rfl)) (hw _ (List.mem_of_getElem? (i := 46) rfl)) (hw _ (List.mem_of_getElem? (i := 3) rfl)) (hw _ (List.mem_of_getElem? (i := 48) rfl)) (by decide) (argsL := [(.int (0 : Int32)), (.int p4)]) (st := []) (c_set l Z a0 hw b1 (0) p4 0 [byteOf (sh (sh p1 16) 8), byteOf (sh p1 16), byteOf (sh p1 8), byteOf p1, byteOf (sh (sh p2 16) 8), byteOf (sh p2 16), byteOf (sh p2 8), byteOf p2] h0.size T4.heap hB4 rfl (by simp) (by simp)) (lenOf pd_6 rfl) (hb hby at_46) (pc' := 49) rfl rfl (by decide) (W := 0) (Nat.le_of_eq rfl) (by decide) (by decide) (by decide) ?_
    intro T5 v5 L5 X5 hQ5
    obtain ⟨rfl, Nq5, hB5⟩ := hQ5
    have N5 := Fr.app N4 Nq5
    replace hB5 : Buf Z T5.heap h0.size b1 [byteOf (sh p4 8), byteOf p4, byteOf (sh p1 8), byteOf p1, byteOf (sh (sh p2 16) 8), byteOf (sh p2 16), byteOf (sh p2 8), byteOf p2] 0 := hB5
    obtain ⟨b', ck', n', k', r', -, -, -, E1, F1, F2, A1, hk', hn', -, -⟩ := hB5
    simp only [List.length_cons, List.length_nil] at hk' hn'
    obtain rfl : k' = 8 := Int32.toInt_inj.mp hk'
    refine gLoadA X5 hx (hb hby at_49) (pc' := 51) rfl rfl rfl ?_
    refine gCallVJ X5 hx hZ (y := (⟨"com/example/anteroom/anteroom/PayloadWriter", "array", "()[B"⟩ : MethodName)) hown rfl (by rw [hml]; rfl) E1 (hw _ (List.mem_of_getElem? (i := 49) rfl)) (hw _ (List.mem_of_getElem? (i := 50) rfl)) (hw _ (List.mem_of_getElem? (i := 52) rfl)) (hw _ (List.mem_of_getElem? (i := 51) rfl)) (hw _ (List.mem_of_getElem? (i := 3) rfl)) (hw _ (List.mem_of_getElem? (i := 53) rfl)) (by decide) (argsL := []) (st := []) (c_arr l Z a0 hw b1 b' 0 _ F1) (lenOf pd_2 rfl) (hb hby at_51) (pc' := 54) rfl rfl rfl rfl (by decide) (W := 0) (Nat.le_of_eq rfl) (by decide) (by decide) (by decide) ?_
    intro T6 X6 e6
    refine gStoreA X6 hx (hb hby at_54) (l' := #[.val (.int p0), .val (.int p1), .val (.int p2), .val (.int p3), .val (.int p4), .val (.int cap), .val (.int (0 : Int32)), .val (.ref b1), .val (.ref b'), .unset, .unset]) (pc' := 56) rfl rfl rfl ?_
    refine gLoadA X6 hx (hb hby at_56) (pc' := 58) rfl rfl rfl ?_
    refine gCallVJ X6 hx hZ (y := (⟨"com/example/anteroom/anteroom/PayloadWriter", "length", "()I"⟩ : MethodName)) hown e6 (by rw [hml]; rfl) E1 (hw _ (List.mem_of_getElem? (i := 54) rfl)) (hw _ (List.mem_of_getElem? (i := 55) rfl)) (hw _ (List.mem_of_getElem? (i := 57) rfl)) (hw _ (List.mem_of_getElem? (i := 56) rfl)) (hw _ (List.mem_of_getElem? (i := 3) rfl)) (hw _ (List.mem_of_getElem? (i := 58) rfl)) (by decide) (argsL := []) (st := []) (c_len l Z a0 hw b1 0 8 _ F2) (lenOf pd_0 rfl) (hb hby at_58) (pc' := 61) rfl rfl rfl rfl (by decide) (W := 0) (Nat.le_of_eq rfl) (by decide) (by decide) (by decide) ?_
    intro T7 X7 e7
    refine gBipush X7 hx (v := (8 : Int32)) (hb hby at_61) (pc' := 63) rfl rfl ?_
    refine gIcmpEqT X7 hx (hb hby at_63) (pc' := 68) (by decide) (by decide) (pn := 66) rfl (fun (c63 : (8 : Int) = (8 : Int)) => ?_) (fun (c63 : ¬ (8 : Int) = (8 : Int)) => ?_)
    · refine gLoadA X7 hx (hb hby at_68) (pc' := 70) rfl rfl rfl ?_
      refine gArrLen X7 hx hZ e7 A1 (hb hby at_70) (pc' := 71) rfl ?_
      refine gBipush X7 hx (v := (8 : Int32)) (hb hby at_71) (pc' := 73) rfl rfl ?_
      refine gIcmpGe X7 hx (hb hby at_73) (pc' := 78) (by decide) (by decide) (pn := 76) rfl (fun (c73 : (8 : Int) ≤ n'.toInt) => ?_) (fun (c73 : n'.toInt < (8 : Int)) => ?_)
      · refine gLoadA X7 hx (hb hby at_78) (pc' := 80) rfl rfl rfl ?_
        refine gIconst X7 hx (v := (0 : Int32)) (hb hby at_80) (pc' := 81) rfl rfl ?_
        refine gBaload X7 hx hZ e7 A1 (j := (0 : Int32)) (v := (.int ((sh p4 8)).toInt8.toInt32)) (by decide) (own_lt (by have : (0 : Int32).toInt = 0 := rfl; omega)) rfl (hb hby at_81) (pc' := 82) rfl ?_
        refine gIconst X7 hx (v := (0 : Int32)) (hb hby at_82) (pc' := 83) rfl rfl ?_
        refine gLoadIN X7 hx (hb hby at_83) (pc' := 84) rfl rfl ?_
        refine gLoadIN X7 hx (hb hby at_84) (pc' := 85) rfl rfl ?_
        refine gLoadI X7 hx (hb hby at_85) (pc' := 87) rfl rfl ?_
        refine gLoadI X7 hx (hb hby at_87) (pc' := 89) rfl rfl ?_
        refine gCallSJ X7 hx hZ (y := (⟨"com/example/anteroom/anteroom/PayloadWriterSetIntPinLaw", "expect", "(IIIII)B"⟩ : MethodName)) hown e7 (by rw [hml]; rfl) (hw _ (List.mem_of_getElem? (i := 59) rfl)) (hw _ (List.mem_of_getElem? (i := 60) rfl)) (hw _ (List.mem_of_getElem? (i := 61) rfl)) (hw _ (List.mem_of_getElem? (i := 62) rfl)) (by decide) (argsL := [(.int (0 : Int32)), (.int p1), (.int p2), (.int (0 : Int32)), (.int p4)]) (st := [(.int ((sh p4 8)).toInt8.toInt32)]) (c_ex l Z a0 hw (0 : Int32) p1 p2 (0 : Int32) p4 _) (lenOf pd_7 rfl) (hb hby at_89) (pc' := 92) rfl rfl rfl rfl (by decide) (W := 1) (Nat.le_of_eq rfl) (by decide) (by decide) (by decide) ?_
        intro T8 X8 e8
        refine gIcmpNe X8 hx (hb hby at_92) (pc' := 222) (by decide) (by decide) (pn := 95) rfl (fun (c92 : ¬ ((sh p4 8)).toInt8.toInt32 = (ex (0 : Int32) p1 p2 (0 : Int32) p4)) => ?_) (fun (c92 : ((sh p4 8)).toInt8.toInt32 = (ex (0 : Int32) p1 p2 (0 : Int32) p4)) => ?_)
        · exact absurd (show _ = ex 0 p1 p2 0 p4 from rfl) c92
        · refine gLoadA X8 hx (hb hby at_95) (pc' := 97) rfl rfl rfl ?_
          refine gIconst X8 hx (v := (1 : Int32)) (hb hby at_97) (pc' := 98) rfl rfl ?_
          refine gBaload X8 hx hZ e8 A1 (j := (1 : Int32)) (v := (.int (p4).toInt8.toInt32)) (by decide) (own_lt (by have : (1 : Int32).toInt = 1 := rfl; omega)) rfl (hb hby at_98) (pc' := 99) rfl ?_
          refine gIconst X8 hx (v := (1 : Int32)) (hb hby at_99) (pc' := 100) rfl rfl ?_
          refine gLoadIN X8 hx (hb hby at_100) (pc' := 101) rfl rfl ?_
          refine gLoadIN X8 hx (hb hby at_101) (pc' := 102) rfl rfl ?_
          refine gLoadI X8 hx (hb hby at_102) (pc' := 104) rfl rfl ?_
          refine gLoadI X8 hx (hb hby at_104) (pc' := 106) rfl rfl ?_
          refine gCallSJ X8 hx hZ (y := (⟨"com/example/anteroom/anteroom/PayloadWriterSetIntPinLaw", "expect", "(IIIII)B"⟩ : MethodName)) hown e8 (by rw [hml]; rfl) (hw _ (List.mem_of_getElem? (i := 59) rfl)) (hw _ (List.mem_of_getElem? (i := 60) rfl)) (hw _ (List.mem_of_getElem? (i := 61) rfl)) (hw _ (List.mem_of_getElem? (i := 62) rfl)) (by decide) (argsL := [(.int (1 : Int32)), (.int p1), (.int p2), (.int (0 : Int32)), (.int p4)]) (st := [(.int (p4).toInt8.toInt32)]) (c_ex l Z a0 hw (1 : Int32) p1 p2 (0 : Int32) p4 _) (lenOf pd_7 rfl) (hb hby at_106) (pc' := 109) rfl rfl rfl rfl (by decide) (W := 1) (Nat.le_of_eq rfl) (by decide) (by decide) (by decide) ?_
          intro T9 X9 e9
          refine gIcmpNe X9 hx (hb hby at_109) (pc' := 222) (by decide) (by decide) (pn := 112) rfl (fun (c109 : ¬ (p4).toInt8.toInt32 = (ex (1 : Int32) p1 p2 (0 : Int32) p4)) => ?_) (fun (c109 : (p4).toInt8.toInt32 = (ex (1 : Int32) p1 p2 (0 : Int32) p4)) => ?_)
          · exact absurd (show _ = ex 1 p1 p2 0 p4 from rfl) c109
          · refine gLoadA X9 hx (hb hby at_112) (pc' := 114) rfl rfl rfl ?_
            refine gIconst X9 hx (v := (2 : Int32)) (hb hby at_114) (pc' := 115) rfl rfl ?_
            refine gBaload X9 hx hZ e9 A1 (j := (2 : Int32)) (v := (.int ((sh p1 8)).toInt8.toInt32)) (by decide) (own_lt (by have : (2 : Int32).toInt = 2 := rfl; omega)) rfl (hb hby at_115) (pc' := 116) rfl ?_
            refine gIconst X9 hx (v := (2 : Int32)) (hb hby at_116) (pc' := 117) rfl rfl ?_
            refine gLoadIN X9 hx (hb hby at_117) (pc' := 118) rfl rfl ?_
            refine gLoadIN X9 hx (hb hby at_118) (pc' := 119) rfl rfl ?_
            refine gLoadI X9 hx (hb hby at_119) (pc' := 121) rfl rfl ?_
            refine gLoadI X9 hx (hb hby at_121) (pc' := 123) rfl rfl ?_
            refine gCallSJ X9 hx hZ (y := (⟨"com/example/anteroom/anteroom/PayloadWriterSetIntPinLaw", "expect", "(IIIII)B"⟩ : MethodName)) hown e9 (by rw [hml]; rfl) (hw _ (List.mem_of_getElem? (i := 59) rfl)) (hw _ (List.mem_of_getElem? (i := 60) rfl)) (hw _ (List.mem_of_getElem? (i := 61) rfl)) (hw _ (List.mem_of_getElem? (i := 62) rfl)) (by decide) (argsL := [(.int (2 : Int32)), (.int p1), (.int p2), (.int (0 : Int32)), (.int p4)]) (st := [(.int ((sh p1 8)).toInt8.toInt32)]) (c_ex l Z a0 hw (2 : Int32) p1 p2 (0 : Int32) p4 _) (lenOf pd_7 rfl) (hb hby at_123) (pc' := 126) rfl rfl rfl rfl (by decide) (W := 1) (Nat.le_of_eq rfl) (by decide) (by decide) (by decide) ?_
            intro T10 X10 e10
            refine gIcmpNe X10 hx (hb hby at_126) (pc' := 222) (by decide) (by decide) (pn := 129) rfl (fun (c126 : ¬ ((sh p1 8)).toInt8.toInt32 = (ex (2 : Int32) p1 p2 (0 : Int32) p4)) => ?_) (fun (c126 : ((sh p1 8)).toInt8.toInt32 = (ex (2 : Int32) p1 p2 (0 : Int32) p4)) => ?_)
            · exact absurd (show _ = ex 2 p1 p2 0 p4 from rfl) c126
            · refine gLoadA X10 hx (hb hby at_129) (pc' := 131) rfl rfl rfl ?_
              refine gIconst X10 hx (v := (3 : Int32)) (hb hby at_131) (pc' := 132) rfl rfl ?_
              refine gBaload X10 hx hZ e10 A1 (j := (3 : Int32)) (v := (.int (p1).toInt8.toInt32)) (by decide) (own_lt (by have : (3 : Int32).toInt = 3 := rfl; omega)) rfl (hb hby at_132) (pc' := 133) rfl ?_
              refine gIconst X10 hx (v := (3 : Int32)) (hb hby at_133) (pc' := 134) rfl rfl ?_
              refine gLoadIN X10 hx (hb hby at_134) (pc' := 135) rfl rfl ?_
              refine gLoadIN X10 hx (hb hby at_135) (pc' := 136) rfl rfl ?_
              refine gLoadI X10 hx (hb hby at_136) (pc' := 138) rfl rfl ?_
              refine gLoadI X10 hx (hb hby at_138) (pc' := 140) rfl rfl ?_
              refine gCallSJ X10 hx hZ (y := (⟨"com/example/anteroom/anteroom/PayloadWriterSetIntPinLaw", "expect", "(IIIII)B"⟩ : MethodName)) hown e10 (by rw [hml]; rfl) (hw _ (List.mem_of_getElem? (i := 59) rfl)) (hw _ (List.mem_of_getElem? (i := 60) rfl)) (hw _ (List.mem_of_getElem? (i := 61) rfl)) (hw _ (List.mem_of_getElem? (i := 62) rfl)) (by decide) (argsL := [(.int (3 : Int32)), (.int p1), (.int p2), (.int (0 : Int32)), (.int p4)]) (st := [(.int (p1).toInt8.toInt32)]) (c_ex l Z a0 hw (3 : Int32) p1 p2 (0 : Int32) p4 _) (lenOf pd_7 rfl) (hb hby at_140) (pc' := 143) rfl rfl rfl rfl (by decide) (W := 1) (Nat.le_of_eq rfl) (by decide) (by decide) (by decide) ?_
              intro T11 X11 e11
              refine gIcmpNe X11 hx (hb hby at_143) (pc' := 222) (by decide) (by decide) (pn := 146) rfl (fun (c143 : ¬ (p1).toInt8.toInt32 = (ex (3 : Int32) p1 p2 (0 : Int32) p4)) => ?_) (fun (c143 : (p1).toInt8.toInt32 = (ex (3 : Int32) p1 p2 (0 : Int32) p4)) => ?_)
              · exact absurd (show _ = ex 3 p1 p2 0 p4 from own_b3 _) c143
              · refine gLoadA X11 hx (hb hby at_146) (pc' := 148) rfl rfl rfl ?_
                refine gIconst X11 hx (v := (4 : Int32)) (hb hby at_148) (pc' := 149) rfl rfl ?_
                refine gBaload X11 hx hZ e11 A1 (j := (4 : Int32)) (v := (.int ((sh (sh p2 16) 8)).toInt8.toInt32)) (by decide) (own_lt (by have : (4 : Int32).toInt = 4 := rfl; omega)) rfl (hb hby at_149) (pc' := 150) rfl ?_
                refine gIconst X11 hx (v := (4 : Int32)) (hb hby at_150) (pc' := 151) rfl rfl ?_
                refine gLoadIN X11 hx (hb hby at_151) (pc' := 152) rfl rfl ?_
                refine gLoadIN X11 hx (hb hby at_152) (pc' := 153) rfl rfl ?_
                refine gLoadI X11 hx (hb hby at_153) (pc' := 155) rfl rfl ?_
                refine gLoadI X11 hx (hb hby at_155) (pc' := 157) rfl rfl ?_
                refine gCallSJ X11 hx hZ (y := (⟨"com/example/anteroom/anteroom/PayloadWriterSetIntPinLaw", "expect", "(IIIII)B"⟩ : MethodName)) hown e11 (by rw [hml]; rfl) (hw _ (List.mem_of_getElem? (i := 59) rfl)) (hw _ (List.mem_of_getElem? (i := 60) rfl)) (hw _ (List.mem_of_getElem? (i := 61) rfl)) (hw _ (List.mem_of_getElem? (i := 62) rfl)) (by decide) (argsL := [(.int (4 : Int32)), (.int p1), (.int p2), (.int (0 : Int32)), (.int p4)]) (st := [(.int ((sh (sh p2 16) 8)).toInt8.toInt32)]) (c_ex l Z a0 hw (4 : Int32) p1 p2 (0 : Int32) p4 _) (lenOf pd_7 rfl) (hb hby at_157) (pc' := 160) rfl rfl rfl rfl (by decide) (W := 1) (Nat.le_of_eq rfl) (by decide) (by decide) (by decide) ?_
                intro T12 X12 e12
                refine gIcmpNe X12 hx (hb hby at_160) (pc' := 222) (by decide) (by decide) (pn := 163) rfl (fun (c160 : ¬ ((sh (sh p2 16) 8)).toInt8.toInt32 = (ex (4 : Int32) p1 p2 (0 : Int32) p4)) => ?_) (fun (c160 : ((sh (sh p2 16) 8)).toInt8.toInt32 = (ex (4 : Int32) p1 p2 (0 : Int32) p4)) => ?_)
                · exact absurd (show _ = ex 4 p1 p2 0 p4 from own_b0 _) c160
                · refine gLoadA X12 hx (hb hby at_163) (pc' := 165) rfl rfl rfl ?_
                  refine gIconst X12 hx (v := (5 : Int32)) (hb hby at_165) (pc' := 166) rfl rfl ?_
                  refine gBaload X12 hx hZ e12 A1 (j := (5 : Int32)) (v := (.int ((sh p2 16)).toInt8.toInt32)) (by decide) (own_lt (by have : (5 : Int32).toInt = 5 := rfl; omega)) rfl (hb hby at_166) (pc' := 167) rfl ?_
                  refine gIconst X12 hx (v := (5 : Int32)) (hb hby at_167) (pc' := 168) rfl rfl ?_
                  refine gLoadIN X12 hx (hb hby at_168) (pc' := 169) rfl rfl ?_
                  refine gLoadIN X12 hx (hb hby at_169) (pc' := 170) rfl rfl ?_
                  refine gLoadI X12 hx (hb hby at_170) (pc' := 172) rfl rfl ?_
                  refine gLoadI X12 hx (hb hby at_172) (pc' := 174) rfl rfl ?_
                  refine gCallSJ X12 hx hZ (y := (⟨"com/example/anteroom/anteroom/PayloadWriterSetIntPinLaw", "expect", "(IIIII)B"⟩ : MethodName)) hown e12 (by rw [hml]; rfl) (hw _ (List.mem_of_getElem? (i := 59) rfl)) (hw _ (List.mem_of_getElem? (i := 60) rfl)) (hw _ (List.mem_of_getElem? (i := 61) rfl)) (hw _ (List.mem_of_getElem? (i := 62) rfl)) (by decide) (argsL := [(.int (5 : Int32)), (.int p1), (.int p2), (.int (0 : Int32)), (.int p4)]) (st := [(.int ((sh p2 16)).toInt8.toInt32)]) (c_ex l Z a0 hw (5 : Int32) p1 p2 (0 : Int32) p4 _) (lenOf pd_7 rfl) (hb hby at_174) (pc' := 177) rfl rfl rfl rfl (by decide) (W := 1) (Nat.le_of_eq rfl) (by decide) (by decide) (by decide) ?_
                  intro T13 X13 e13
                  refine gIcmpNe X13 hx (hb hby at_177) (pc' := 222) (by decide) (by decide) (pn := 180) rfl (fun (c177 : ¬ ((sh p2 16)).toInt8.toInt32 = (ex (5 : Int32) p1 p2 (0 : Int32) p4)) => ?_) (fun (c177 : ((sh p2 16)).toInt8.toInt32 = (ex (5 : Int32) p1 p2 (0 : Int32) p4)) => ?_)
                  · exact absurd (show _ = ex 5 p1 p2 0 p4 from rfl) c177
                  · refine gLoadA X13 hx (hb hby at_180) (pc' := 182) rfl rfl rfl ?_
                    refine gBipush X13 hx (v := (6 : Int32)) (hb hby at_182) (pc' := 184) rfl rfl ?_
                    refine gBaload X13 hx hZ e13 A1 (j := (6 : Int32)) (v := (.int ((sh p2 8)).toInt8.toInt32)) (by decide) (own_lt (by have : (6 : Int32).toInt = 6 := rfl; omega)) rfl (hb hby at_184) (pc' := 185) rfl ?_
                    refine gBipush X13 hx (v := (6 : Int32)) (hb hby at_185) (pc' := 187) rfl rfl ?_
                    refine gLoadIN X13 hx (hb hby at_187) (pc' := 188) rfl rfl ?_
                    refine gLoadIN X13 hx (hb hby at_188) (pc' := 189) rfl rfl ?_
                    refine gLoadI X13 hx (hb hby at_189) (pc' := 191) rfl rfl ?_
                    refine gLoadI X13 hx (hb hby at_191) (pc' := 193) rfl rfl ?_
                    refine gCallSJ X13 hx hZ (y := (⟨"com/example/anteroom/anteroom/PayloadWriterSetIntPinLaw", "expect", "(IIIII)B"⟩ : MethodName)) hown e13 (by rw [hml]; rfl) (hw _ (List.mem_of_getElem? (i := 59) rfl)) (hw _ (List.mem_of_getElem? (i := 60) rfl)) (hw _ (List.mem_of_getElem? (i := 61) rfl)) (hw _ (List.mem_of_getElem? (i := 62) rfl)) (by decide) (argsL := [(.int (6 : Int32)), (.int p1), (.int p2), (.int (0 : Int32)), (.int p4)]) (st := [(.int ((sh p2 8)).toInt8.toInt32)]) (c_ex l Z a0 hw (6 : Int32) p1 p2 (0 : Int32) p4 _) (lenOf pd_7 rfl) (hb hby at_193) (pc' := 196) rfl rfl rfl rfl (by decide) (W := 1) (Nat.le_of_eq rfl) (by decide) (by decide) (by decide) ?_
                    intro T14 X14 e14
                    refine gIcmpNe X14 hx (hb hby at_196) (pc' := 222) (by decide) (by decide) (pn := 199) rfl (fun (c196 : ¬ ((sh p2 8)).toInt8.toInt32 = (ex (6 : Int32) p1 p2 (0 : Int32) p4)) => ?_) (fun (c196 : ((sh p2 8)).toInt8.toInt32 = (ex (6 : Int32) p1 p2 (0 : Int32) p4)) => ?_)
                    · exact absurd (show _ = ex 6 p1 p2 0 p4 from rfl) c196
                    · refine gLoadA X14 hx (hb hby at_199) (pc' := 201) rfl rfl rfl ?_
                      refine gBipush X14 hx (v := (7 : Int32)) (hb hby at_201) (pc' := 203) rfl rfl ?_
                      refine gBaload X14 hx hZ e14 A1 (j := (7 : Int32)) (v := (.int (p2).toInt8.toInt32)) (by decide) (own_lt (by have : (7 : Int32).toInt = 7 := rfl; omega)) rfl (hb hby at_203) (pc' := 204) rfl ?_
                      refine gBipush X14 hx (v := (7 : Int32)) (hb hby at_204) (pc' := 206) rfl rfl ?_
                      refine gLoadIN X14 hx (hb hby at_206) (pc' := 207) rfl rfl ?_
                      refine gLoadIN X14 hx (hb hby at_207) (pc' := 208) rfl rfl ?_
                      refine gLoadI X14 hx (hb hby at_208) (pc' := 210) rfl rfl ?_
                      refine gLoadI X14 hx (hb hby at_210) (pc' := 212) rfl rfl ?_
                      refine gCallSJ X14 hx hZ (y := (⟨"com/example/anteroom/anteroom/PayloadWriterSetIntPinLaw", "expect", "(IIIII)B"⟩ : MethodName)) hown e14 (by rw [hml]; rfl) (hw _ (List.mem_of_getElem? (i := 59) rfl)) (hw _ (List.mem_of_getElem? (i := 60) rfl)) (hw _ (List.mem_of_getElem? (i := 61) rfl)) (hw _ (List.mem_of_getElem? (i := 62) rfl)) (by decide) (argsL := [(.int (7 : Int32)), (.int p1), (.int p2), (.int (0 : Int32)), (.int p4)]) (st := [(.int (p2).toInt8.toInt32)]) (c_ex l Z a0 hw (7 : Int32) p1 p2 (0 : Int32) p4 _) (lenOf pd_7 rfl) (hb hby at_212) (pc' := 215) rfl rfl rfl rfl (by decide) (W := 1) (Nat.le_of_eq rfl) (by decide) (by decide) (by decide) ?_
                      intro T15 X15 e15
                      refine gIcmpNe X15 hx (hb hby at_215) (pc' := 222) (by decide) (by decide) (pn := 218) rfl (fun (c215 : ¬ (p2).toInt8.toInt32 = (ex (7 : Int32) p1 p2 (0 : Int32) p4)) => ?_) (fun (c215 : (p2).toInt8.toInt32 = (ex (7 : Int32) p1 p2 (0 : Int32) p4)) => ?_)
                      · exact absurd (show _ = ex 7 p1 p2 0 p4 from own_b3 _) c215
                      · refine gIconst X15 hx (v := (1 : Int32)) (hb hby at_218) (pc' := 219) rfl rfl ?_
                        refine gGoto X15 hx (hb hby at_219) (pc' := 223) (by decide) (by decide) ?_
                        refine gStoreI X15 hx (hb hby at_223) (l' := #[.val (.int p0), .val (.int p1), .val (.int p2), .val (.int p3), .val (.int p4), .val (.int cap), .val (.int (0 : Int32)), .val (.ref b1), .val (.ref b'), .val (.int (1 : Int32)), .unset]) (pc' := 225) rfl rfl ?_
                        refine gLoadA X15 hx (hb hby at_225) (pc' := 227) rfl rfl rfl ?_
                        refine gLoadI X15 hx (hb hby at_227) (pc' := 229) rfl rfl ?_
                        refine gBaload X15 hx hZ e15 A1 (j := (0 : Int32)) (v := (.int ((sh p4 8)).toInt8.toInt32)) (by decide) (own_lt (by have : (0 : Int32).toInt = 0 := rfl; omega)) rfl (hb hby at_229) (pc' := 230) rfl ?_
                        refine gSipush X15 hx (v := (255 : Int32)) (hb hby at_230) (pc' := 233) rfl rfl ?_
                        refine gIand X15 hx (hb hby at_233) (pc' := 234) rfl ?_
                        refine gBipush X15 hx (v := (8 : Int32)) (hb hby at_234) (pc' := 236) rfl rfl ?_
                        refine gIshl X15 hx (hb hby at_236) (pc' := 237) rfl ?_
                        refine gLoadA X15 hx (hb hby at_237) (pc' := 239) rfl rfl rfl ?_
                        refine gLoadI X15 hx (hb hby at_239) (pc' := 241) rfl rfl ?_
                        refine gIconst X15 hx (v := (1 : Int32)) (hb hby at_241) (pc' := 242) rfl rfl ?_
                        refine gIadd X15 hx (hb hby at_242) (pc' := 243) rfl ?_
                        show Goes p e below _ T15 (mkF m 243 #[.val (.int p0), .val (.int p1), .val (.int p2), .val (.int p3), .val (.int p4), .val (.int cap), .val (.int (0 : Int32)), .val (.ref b1), .val (.ref b'), .val (.int (1 : Int32)), .unset] [(.int (1 : Int32)), (.ref b'), (.int ((((sh p4 8)).toInt8.toInt32 &&& (255 : Int32)) <<< ((8 : Int32) &&& 31)))])
                        refine gBaload X15 hx hZ e15 A1 (j := (1 : Int32)) (v := (.int (p4).toInt8.toInt32)) (by decide) (own_lt (by have : (1 : Int32).toInt = 1 := rfl; omega)) rfl (hb hby at_243) (pc' := 244) rfl ?_
                        refine gSipush X15 hx (v := (255 : Int32)) (hb hby at_244) (pc' := 247) rfl rfl ?_
                        refine gIand X15 hx (hb hby at_247) (pc' := 248) rfl ?_
                        refine gIor X15 hx (hb hby at_248) (pc' := 249) rfl ?_
                        refine gStoreI X15 hx (hb hby at_249) (l' := #[.val (.int p0), .val (.int p1), .val (.int p2), .val (.int p3), .val (.int p4), .val (.int cap), .val (.int (0 : Int32)), .val (.ref b1), .val (.ref b'), .val (.int (1 : Int32)), .val (.int (((((sh p4 8)).toInt8.toInt32 &&& (255 : Int32)) <<< ((8 : Int32) &&& 31)) ||| ((p4).toInt8.toInt32 &&& (255 : Int32))))]) (pc' := 251) rfl rfl ?_
                        refine gLoadI X15 hx (hb hby at_251) (pc' := 253) rfl rfl ?_
                        refine gIfEqT X15 hx (hb hby at_253) (pc' := 270) (by decide) (by decide) (pn := 256) rfl (fun (c253 : (1 : Int) = (0 : Int)) => ?_) (fun (c253 : ¬ (1 : Int) = (0 : Int)) => ?_)
                        · exact absurd c253 (by decide)
                        · refine gLoadI X15 hx (hb hby at_256) (pc' := 258) rfl rfl ?_
                          refine gLoadI X15 hx (hb hby at_258) (pc' := 260) rfl rfl ?_
                          refine gLdc X15 hx hZ hown (hw _ (List.mem_of_getElem? (i := 63) rfl)) (hb hby at_260) (pc' := 262) rfl ?_
                          refine gIand X15 hx (hb hby at_262) (pc' := 263) rfl ?_
                          refine gIcmpNe X15 hx (hb hby at_263) (pc' := 270) (by decide) (by decide) (pn := 266) rfl (fun (c263 : ¬ (((((sh p4 8)).toInt8.toInt32 &&& (255 : Int32)) <<< ((8 : Int32) &&& 31)) ||| ((p4).toInt8.toInt32 &&& (255 : Int32))) = (p4 &&& (65535 : Int32))) => ?_) (fun (c263 : (((((sh p4 8)).toInt8.toInt32 &&& (255 : Int32)) <<< ((8 : Int32) &&& 31)) ||| ((p4).toInt8.toInt32 &&& (255 : Int32))) = (p4 &&& (65535 : Int32))) => ?_)
                          · exact absurd (own_rd p4) c263
                          · refine gIconst X15 hx (v := (1 : Int32)) (hb hby at_266) (pc' := 267) rfl rfl ?_
                            refine gGoto X15 hx (hb hby at_267) (pc' := 271) (by decide) (by decide) ?_
                            exact gRetN X15 hx hlk hret (by simp) (hb hby at_271) (w := (1 : Int32)) rfl (by decide) (by decide) (⟨rfl, N5⟩)
      · exact absurd c73 (by omega)
    · exact absurd c63 (by decide)
  · refine gStoreI X0 hx (hb hby at_13) (l' := #[.val (.int p0), .val (.int p1), .val (.int p2), .val (.int p3), .val (.int p4), .val (.int cap), .val (.int (1 : Int32)), .unset, .unset, .unset, .unset]) (pc' := 15) rfl rfl ?_
    refine gNew X0 hx hZ hown (hw _ (List.mem_of_getElem? (i := 1) rfl)) (hw _ (List.mem_of_getElem? (i := 2) rfl)) (hw _ (List.mem_of_getElem? (i := 3) rfl)) e0 (hb hby at_15) (pc' := 18) rfl (by decide) (by decide) (fun T16 h16 b16 X16 e16 g16 E16 A16 D16 => ?_)
    have sz_b16 : h0.size ≤ b16 := Nat.le_trans (Nat.le_refl _) (Nat.le_of_eq g16.symm)
    have zs16 : h0.size ≤ h16.size := Nat.le_trans (Nat.le_refl _) E16.1
    have F16_octets : Fld Z h16 b16 "com/example/anteroom/anteroom/PayloadWriter" "octets" "[B" .null := D16 (Or.inl (hw _ (List.mem_of_getElem? (i := 12) rfl))) (ty := (.array .byte)) (by decide)
    have F16_length : Fld Z h16 b16 "com/example/anteroom/anteroom/PayloadWriter" "length" "I" (.int (0 : Int32)) := D16 (Or.inl (hw _ (List.mem_of_getElem? (i := 28) rfl))) (ty := .int) (by decide)
    refine gDup X16 hx (hb hby at_18) (pc' := 19) rfl rfl ?_
    refine gLoadI X16 hx (hb hby at_19) (pc' := 21) rfl rfl ?_
    refine gCallI X16 hx hZ (y := (⟨"com/example/anteroom/anteroom/PayloadWriter", "<init>", "(I)V"⟩ : MethodName)) rfl hown e16 (by rw [hml]; rfl) (hw _ (List.mem_of_getElem? (i := 4) rfl)) (hw _ (List.mem_of_getElem? (i := 5) rfl)) (hw _ (List.mem_of_getElem? (i := 3) rfl)) (hw _ (List.mem_of_getElem? (i := 6) rfl)) (by decide) (argsL := [(.int cap)]) (st := [(.ref b16)]) (c_init l Z a0 hw b16 cap h0.size h16 sz_b16 zs16 hcap.1 hcap.2 A16 F16_octets F16_length) (lenOf pd_4 rfl) (hb hby at_21) (pc' := 24) rfl rfl (by decide) (W := 1) (Nat.le_of_eq rfl) (by decide) (by decide) (by decide) ?_
    intro T17 v17 L17 X17 hQ17
    obtain ⟨rfl, Nq17, hB17⟩ := hQ17
    have N17 := Fr.app (Fr.nil h0.size) Nq17
    have hb17 := hB17
    obtain ⟨_, _, _, _, _, _, _, _, E17, -⟩ := hb17
    refine gStoreA X17 hx (hb hby at_24) (l' := #[.val (.int p0), .val (.int p1), .val (.int p2), .val (.int p3), .val (.int p4), .val (.int cap), .val (.int (1 : Int32)), .val (.ref b16), .unset, .unset, .unset]) (pc' := 26) rfl rfl rfl ?_
    refine gLoadA X17 hx (hb hby at_26) (pc' := 28) rfl rfl rfl ?_
    refine gLoadIN X17 hx (hb hby at_28) (pc' := 29) rfl rfl ?_
    refine gCallV X17 hx hZ (y := (⟨"com/example/anteroom/anteroom/PayloadWriter", "writeInt32", "(I)Lcom/example/anteroom/anteroom/PayloadWriter;"⟩ : MethodName)) hown rfl (by rw [hml]; rfl) E17 (hw _ (List.mem_of_getElem? (i := 13) rfl)) (hw _ (List.mem_of_getElem? (i := 14) rfl)) (hw _ (List.mem_of_getElem? (i := 16) rfl)) (hw _ (List.mem_of_getElem? (i := 15) rfl)) (hw _ (List.mem_of_getElem? (i := 3) rfl)) (hw _ (List.mem_of_getElem? (i := 17) rfl)) (by decide) (argsL := [(.int p1)]) (st := []) (c_w32 l Z a0 hw b16 p1 [] h0.size T17.heap hB17 (by simp)) (lenOf pd_3 rfl) (hb hby at_29) (pc' := 32) rfl rfl (by decide) (W := 0) (Nat.le_of_eq rfl) (by decide) (by decide) (by decide) ?_
    intro T18 v18 L18 X18 hQ18
    obtain ⟨rfl, Nq18, hB18⟩ := hQ18
    have N18 := Fr.app N17 Nq18
    have hb18 := hB18
    obtain ⟨_, _, _, _, _, _, _, _, E18, -⟩ := hb18
    refine gPop X18 hx (hb hby at_32) (pc' := 33) rfl rfl ?_
    refine gLoadA X18 hx (hb hby at_33) (pc' := 35) rfl rfl rfl ?_
    refine gLoadIN X18 hx (hb hby at_35) (pc' := 36) rfl rfl ?_
    refine gCallV X18 hx hZ (y := (⟨"com/example/anteroom/anteroom/PayloadWriter", "writeInt32", "(I)Lcom/example/anteroom/anteroom/PayloadWriter;"⟩ : MethodName)) hown rfl (by rw [hml]; rfl) E18 (hw _ (List.mem_of_getElem? (i := 13) rfl)) (hw _ (List.mem_of_getElem? (i := 14) rfl)) (hw _ (List.mem_of_getElem? (i := 16) rfl)) (hw _ (List.mem_of_getElem? (i := 15) rfl)) (hw _ (List.mem_of_getElem? (i := 3) rfl)) (hw _ (List.mem_of_getElem? (i := 17) rfl)) (by decide) (argsL := [(.int p2)]) (st := []) (c_w32 l Z a0 hw b16 p2 [byteOf (sh (sh p1 16) 8), byteOf (sh p1 16), byteOf (sh p1 8), byteOf p1] h0.size T18.heap hB18 (by simp)) (lenOf pd_3 rfl) (hb hby at_36) (pc' := 39) rfl rfl (by decide) (W := 0) (Nat.le_of_eq rfl) (by decide) (by decide) (by decide) ?_
    intro T19 v19 L19 X19 hQ19
    obtain ⟨rfl, Nq19, hB19⟩ := hQ19
    have N19 := Fr.app N18 Nq19
    have hb19 := hB19
    obtain ⟨_, _, _, _, _, _, _, _, E19, -⟩ := hb19
    refine gPop X19 hx (hb hby at_39) (pc' := 40) rfl rfl ?_
    refine gLoadA X19 hx (hb hby at_40) (pc' := 42) rfl rfl rfl ?_
    refine gLoadI X19 hx (hb hby at_42) (pc' := 44) rfl rfl ?_
    refine gLoadI X19 hx (hb hby at_44) (pc' := 46) rfl rfl ?_
    refine gCallV X19 hx hZ (y := (⟨"com/example/anteroom/anteroom/PayloadWriter", "setInt", "(II)V"⟩ : MethodName)) hown rfl (by rw [hml]; rfl) E19 (hw _ (List.mem_of_getElem? (i := 44) rfl)) (hw _ (List.mem_of_getElem? (i := 45) rfl)) (hw _ (List.mem_of_getElem? (i := 47) rfl)) (hw _ (List.mem_of_getElem? (i := 46) rfl)) (hw _ (List.mem_of_getElem? (i := 3) rfl)) (hw _ (List.mem_of_getElem? (i := 48) rfl)) (by decide) (argsL := [(.int (1 : Int32)), (.int p4)]) (st := []) (c_set l Z a0 hw b16 (1) p4 1 [byteOf (sh (sh p1 16) 8), byteOf (sh p1 16), byteOf (sh p1 8), byteOf p1, byteOf (sh (sh p2 16) 8), byteOf (sh p2 16), byteOf (sh p2 8), byteOf p2] h0.size T19.heap hB19 rfl (by simp) (by simp)) (lenOf pd_6 rfl) (hb hby at_46) (pc' := 49) rfl rfl (by decide) (W := 0) (Nat.le_of_eq rfl) (by decide) (by decide) (by decide) ?_
    intro T20 v20 L20 X20 hQ20
    obtain ⟨rfl, Nq20, hB20⟩ := hQ20
    have N20 := Fr.app N19 Nq20
    replace hB20 : Buf Z T20.heap h0.size b16 [byteOf (sh (sh p1 16) 8), byteOf (sh p4 8), byteOf p4, byteOf p1, byteOf (sh (sh p2 16) 8), byteOf (sh p2 16), byteOf (sh p2 8), byteOf p2] 0 := hB20
    obtain ⟨b', ck', n', k', r', -, -, -, E1, F1, F2, A1, hk', hn', -, -⟩ := hB20
    simp only [List.length_cons, List.length_nil] at hk' hn'
    obtain rfl : k' = 8 := Int32.toInt_inj.mp hk'
    refine gLoadA X20 hx (hb hby at_49) (pc' := 51) rfl rfl rfl ?_
    refine gCallVJ X20 hx hZ (y := (⟨"com/example/anteroom/anteroom/PayloadWriter", "array", "()[B"⟩ : MethodName)) hown rfl (by rw [hml]; rfl) E1 (hw _ (List.mem_of_getElem? (i := 49) rfl)) (hw _ (List.mem_of_getElem? (i := 50) rfl)) (hw _ (List.mem_of_getElem? (i := 52) rfl)) (hw _ (List.mem_of_getElem? (i := 51) rfl)) (hw _ (List.mem_of_getElem? (i := 3) rfl)) (hw _ (List.mem_of_getElem? (i := 53) rfl)) (by decide) (argsL := []) (st := []) (c_arr l Z a0 hw b16 b' 0 _ F1) (lenOf pd_2 rfl) (hb hby at_51) (pc' := 54) rfl rfl rfl rfl (by decide) (W := 0) (Nat.le_of_eq rfl) (by decide) (by decide) (by decide) ?_
    intro T21 X21 e21
    refine gStoreA X21 hx (hb hby at_54) (l' := #[.val (.int p0), .val (.int p1), .val (.int p2), .val (.int p3), .val (.int p4), .val (.int cap), .val (.int (1 : Int32)), .val (.ref b16), .val (.ref b'), .unset, .unset]) (pc' := 56) rfl rfl rfl ?_
    refine gLoadA X21 hx (hb hby at_56) (pc' := 58) rfl rfl rfl ?_
    refine gCallVJ X21 hx hZ (y := (⟨"com/example/anteroom/anteroom/PayloadWriter", "length", "()I"⟩ : MethodName)) hown e21 (by rw [hml]; rfl) E1 (hw _ (List.mem_of_getElem? (i := 54) rfl)) (hw _ (List.mem_of_getElem? (i := 55) rfl)) (hw _ (List.mem_of_getElem? (i := 57) rfl)) (hw _ (List.mem_of_getElem? (i := 56) rfl)) (hw _ (List.mem_of_getElem? (i := 3) rfl)) (hw _ (List.mem_of_getElem? (i := 58) rfl)) (by decide) (argsL := []) (st := []) (c_len l Z a0 hw b16 0 8 _ F2) (lenOf pd_0 rfl) (hb hby at_58) (pc' := 61) rfl rfl rfl rfl (by decide) (W := 0) (Nat.le_of_eq rfl) (by decide) (by decide) (by decide) ?_
    intro T22 X22 e22
    refine gBipush X22 hx (v := (8 : Int32)) (hb hby at_61) (pc' := 63) rfl rfl ?_
    refine gIcmpEqT X22 hx (hb hby at_63) (pc' := 68) (by decide) (by decide) (pn := 66) rfl (fun (c63 : (8 : Int) = (8 : Int)) => ?_) (fun (c63 : ¬ (8 : Int) = (8 : Int)) => ?_)
    · refine gLoadA X22 hx (hb hby at_68) (pc' := 70) rfl rfl rfl ?_
      refine gArrLen X22 hx hZ e22 A1 (hb hby at_70) (pc' := 71) rfl ?_
      refine gBipush X22 hx (v := (8 : Int32)) (hb hby at_71) (pc' := 73) rfl rfl ?_
      refine gIcmpGe X22 hx (hb hby at_73) (pc' := 78) (by decide) (by decide) (pn := 76) rfl (fun (c73 : (8 : Int) ≤ n'.toInt) => ?_) (fun (c73 : n'.toInt < (8 : Int)) => ?_)
      · refine gLoadA X22 hx (hb hby at_78) (pc' := 80) rfl rfl rfl ?_
        refine gIconst X22 hx (v := (0 : Int32)) (hb hby at_80) (pc' := 81) rfl rfl ?_
        refine gBaload X22 hx hZ e22 A1 (j := (0 : Int32)) (v := (.int ((sh (sh p1 16) 8)).toInt8.toInt32)) (by decide) (own_lt (by have : (0 : Int32).toInt = 0 := rfl; omega)) rfl (hb hby at_81) (pc' := 82) rfl ?_
        refine gIconst X22 hx (v := (0 : Int32)) (hb hby at_82) (pc' := 83) rfl rfl ?_
        refine gLoadIN X22 hx (hb hby at_83) (pc' := 84) rfl rfl ?_
        refine gLoadIN X22 hx (hb hby at_84) (pc' := 85) rfl rfl ?_
        refine gLoadI X22 hx (hb hby at_85) (pc' := 87) rfl rfl ?_
        refine gLoadI X22 hx (hb hby at_87) (pc' := 89) rfl rfl ?_
        refine gCallSJ X22 hx hZ (y := (⟨"com/example/anteroom/anteroom/PayloadWriterSetIntPinLaw", "expect", "(IIIII)B"⟩ : MethodName)) hown e22 (by rw [hml]; rfl) (hw _ (List.mem_of_getElem? (i := 59) rfl)) (hw _ (List.mem_of_getElem? (i := 60) rfl)) (hw _ (List.mem_of_getElem? (i := 61) rfl)) (hw _ (List.mem_of_getElem? (i := 62) rfl)) (by decide) (argsL := [(.int (0 : Int32)), (.int p1), (.int p2), (.int (1 : Int32)), (.int p4)]) (st := [(.int ((sh (sh p1 16) 8)).toInt8.toInt32)]) (c_ex l Z a0 hw (0 : Int32) p1 p2 (1 : Int32) p4 _) (lenOf pd_7 rfl) (hb hby at_89) (pc' := 92) rfl rfl rfl rfl (by decide) (W := 1) (Nat.le_of_eq rfl) (by decide) (by decide) (by decide) ?_
        intro T23 X23 e23
        refine gIcmpNe X23 hx (hb hby at_92) (pc' := 222) (by decide) (by decide) (pn := 95) rfl (fun (c92 : ¬ ((sh (sh p1 16) 8)).toInt8.toInt32 = (ex (0 : Int32) p1 p2 (1 : Int32) p4)) => ?_) (fun (c92 : ((sh (sh p1 16) 8)).toInt8.toInt32 = (ex (0 : Int32) p1 p2 (1 : Int32) p4)) => ?_)
        · exact absurd (show _ = ex 0 p1 p2 1 p4 from own_b0 _) c92
        · refine gLoadA X23 hx (hb hby at_95) (pc' := 97) rfl rfl rfl ?_
          refine gIconst X23 hx (v := (1 : Int32)) (hb hby at_97) (pc' := 98) rfl rfl ?_
          refine gBaload X23 hx hZ e23 A1 (j := (1 : Int32)) (v := (.int ((sh p4 8)).toInt8.toInt32)) (by decide) (own_lt (by have : (1 : Int32).toInt = 1 := rfl; omega)) rfl (hb hby at_98) (pc' := 99) rfl ?_
          refine gIconst X23 hx (v := (1 : Int32)) (hb hby at_99) (pc' := 100) rfl rfl ?_
          refine gLoadIN X23 hx (hb hby at_100) (pc' := 101) rfl rfl ?_
          refine gLoadIN X23 hx (hb hby at_101) (pc' := 102) rfl rfl ?_
          refine gLoadI X23 hx (hb hby at_102) (pc' := 104) rfl rfl ?_
          refine gLoadI X23 hx (hb hby at_104) (pc' := 106) rfl rfl ?_
          refine gCallSJ X23 hx hZ (y := (⟨"com/example/anteroom/anteroom/PayloadWriterSetIntPinLaw", "expect", "(IIIII)B"⟩ : MethodName)) hown e23 (by rw [hml]; rfl) (hw _ (List.mem_of_getElem? (i := 59) rfl)) (hw _ (List.mem_of_getElem? (i := 60) rfl)) (hw _ (List.mem_of_getElem? (i := 61) rfl)) (hw _ (List.mem_of_getElem? (i := 62) rfl)) (by decide) (argsL := [(.int (1 : Int32)), (.int p1), (.int p2), (.int (1 : Int32)), (.int p4)]) (st := [(.int ((sh p4 8)).toInt8.toInt32)]) (c_ex l Z a0 hw (1 : Int32) p1 p2 (1 : Int32) p4 _) (lenOf pd_7 rfl) (hb hby at_106) (pc' := 109) rfl rfl rfl rfl (by decide) (W := 1) (Nat.le_of_eq rfl) (by decide) (by decide) (by decide) ?_
          intro T24 X24 e24
          refine gIcmpNe X24 hx (hb hby at_109) (pc' := 222) (by decide) (by decide) (pn := 112) rfl (fun (c109 : ¬ ((sh p4 8)).toInt8.toInt32 = (ex (1 : Int32) p1 p2 (1 : Int32) p4)) => ?_) (fun (c109 : ((sh p4 8)).toInt8.toInt32 = (ex (1 : Int32) p1 p2 (1 : Int32) p4)) => ?_)
          · exact absurd (show _ = ex 1 p1 p2 1 p4 from rfl) c109
          · refine gLoadA X24 hx (hb hby at_112) (pc' := 114) rfl rfl rfl ?_
            refine gIconst X24 hx (v := (2 : Int32)) (hb hby at_114) (pc' := 115) rfl rfl ?_
            refine gBaload X24 hx hZ e24 A1 (j := (2 : Int32)) (v := (.int (p4).toInt8.toInt32)) (by decide) (own_lt (by have : (2 : Int32).toInt = 2 := rfl; omega)) rfl (hb hby at_115) (pc' := 116) rfl ?_
            refine gIconst X24 hx (v := (2 : Int32)) (hb hby at_116) (pc' := 117) rfl rfl ?_
            refine gLoadIN X24 hx (hb hby at_117) (pc' := 118) rfl rfl ?_
            refine gLoadIN X24 hx (hb hby at_118) (pc' := 119) rfl rfl ?_
            refine gLoadI X24 hx (hb hby at_119) (pc' := 121) rfl rfl ?_
            refine gLoadI X24 hx (hb hby at_121) (pc' := 123) rfl rfl ?_
            refine gCallSJ X24 hx hZ (y := (⟨"com/example/anteroom/anteroom/PayloadWriterSetIntPinLaw", "expect", "(IIIII)B"⟩ : MethodName)) hown e24 (by rw [hml]; rfl) (hw _ (List.mem_of_getElem? (i := 59) rfl)) (hw _ (List.mem_of_getElem? (i := 60) rfl)) (hw _ (List.mem_of_getElem? (i := 61) rfl)) (hw _ (List.mem_of_getElem? (i := 62) rfl)) (by decide) (argsL := [(.int (2 : Int32)), (.int p1), (.int p2), (.int (1 : Int32)), (.int p4)]) (st := [(.int (p4).toInt8.toInt32)]) (c_ex l Z a0 hw (2 : Int32) p1 p2 (1 : Int32) p4 _) (lenOf pd_7 rfl) (hb hby at_123) (pc' := 126) rfl rfl rfl rfl (by decide) (W := 1) (Nat.le_of_eq rfl) (by decide) (by decide) (by decide) ?_
            intro T25 X25 e25
            refine gIcmpNe X25 hx (hb hby at_126) (pc' := 222) (by decide) (by decide) (pn := 129) rfl (fun (c126 : ¬ (p4).toInt8.toInt32 = (ex (2 : Int32) p1 p2 (1 : Int32) p4)) => ?_) (fun (c126 : (p4).toInt8.toInt32 = (ex (2 : Int32) p1 p2 (1 : Int32) p4)) => ?_)
            · exact absurd (show _ = ex 2 p1 p2 1 p4 from rfl) c126
            · refine gLoadA X25 hx (hb hby at_129) (pc' := 131) rfl rfl rfl ?_
              refine gIconst X25 hx (v := (3 : Int32)) (hb hby at_131) (pc' := 132) rfl rfl ?_
              refine gBaload X25 hx hZ e25 A1 (j := (3 : Int32)) (v := (.int (p1).toInt8.toInt32)) (by decide) (own_lt (by have : (3 : Int32).toInt = 3 := rfl; omega)) rfl (hb hby at_132) (pc' := 133) rfl ?_
              refine gIconst X25 hx (v := (3 : Int32)) (hb hby at_133) (pc' := 134) rfl rfl ?_
              refine gLoadIN X25 hx (hb hby at_134) (pc' := 135) rfl rfl ?_
              refine gLoadIN X25 hx (hb hby at_135) (pc' := 136) rfl rfl ?_
              refine gLoadI X25 hx (hb hby at_136) (pc' := 138) rfl rfl ?_
              refine gLoadI X25 hx (hb hby at_138) (pc' := 140) rfl rfl ?_
              refine gCallSJ X25 hx hZ (y := (⟨"com/example/anteroom/anteroom/PayloadWriterSetIntPinLaw", "expect", "(IIIII)B"⟩ : MethodName)) hown e25 (by rw [hml]; rfl) (hw _ (List.mem_of_getElem? (i := 59) rfl)) (hw _ (List.mem_of_getElem? (i := 60) rfl)) (hw _ (List.mem_of_getElem? (i := 61) rfl)) (hw _ (List.mem_of_getElem? (i := 62) rfl)) (by decide) (argsL := [(.int (3 : Int32)), (.int p1), (.int p2), (.int (1 : Int32)), (.int p4)]) (st := [(.int (p1).toInt8.toInt32)]) (c_ex l Z a0 hw (3 : Int32) p1 p2 (1 : Int32) p4 _) (lenOf pd_7 rfl) (hb hby at_140) (pc' := 143) rfl rfl rfl rfl (by decide) (W := 1) (Nat.le_of_eq rfl) (by decide) (by decide) (by decide) ?_
              intro T26 X26 e26
              refine gIcmpNe X26 hx (hb hby at_143) (pc' := 222) (by decide) (by decide) (pn := 146) rfl (fun (c143 : ¬ (p1).toInt8.toInt32 = (ex (3 : Int32) p1 p2 (1 : Int32) p4)) => ?_) (fun (c143 : (p1).toInt8.toInt32 = (ex (3 : Int32) p1 p2 (1 : Int32) p4)) => ?_)
              · exact absurd (show _ = ex 3 p1 p2 1 p4 from own_b3 _) c143
              · refine gLoadA X26 hx (hb hby at_146) (pc' := 148) rfl rfl rfl ?_
                refine gIconst X26 hx (v := (4 : Int32)) (hb hby at_148) (pc' := 149) rfl rfl ?_
                refine gBaload X26 hx hZ e26 A1 (j := (4 : Int32)) (v := (.int ((sh (sh p2 16) 8)).toInt8.toInt32)) (by decide) (own_lt (by have : (4 : Int32).toInt = 4 := rfl; omega)) rfl (hb hby at_149) (pc' := 150) rfl ?_
                refine gIconst X26 hx (v := (4 : Int32)) (hb hby at_150) (pc' := 151) rfl rfl ?_
                refine gLoadIN X26 hx (hb hby at_151) (pc' := 152) rfl rfl ?_
                refine gLoadIN X26 hx (hb hby at_152) (pc' := 153) rfl rfl ?_
                refine gLoadI X26 hx (hb hby at_153) (pc' := 155) rfl rfl ?_
                refine gLoadI X26 hx (hb hby at_155) (pc' := 157) rfl rfl ?_
                refine gCallSJ X26 hx hZ (y := (⟨"com/example/anteroom/anteroom/PayloadWriterSetIntPinLaw", "expect", "(IIIII)B"⟩ : MethodName)) hown e26 (by rw [hml]; rfl) (hw _ (List.mem_of_getElem? (i := 59) rfl)) (hw _ (List.mem_of_getElem? (i := 60) rfl)) (hw _ (List.mem_of_getElem? (i := 61) rfl)) (hw _ (List.mem_of_getElem? (i := 62) rfl)) (by decide) (argsL := [(.int (4 : Int32)), (.int p1), (.int p2), (.int (1 : Int32)), (.int p4)]) (st := [(.int ((sh (sh p2 16) 8)).toInt8.toInt32)]) (c_ex l Z a0 hw (4 : Int32) p1 p2 (1 : Int32) p4 _) (lenOf pd_7 rfl) (hb hby at_157) (pc' := 160) rfl rfl rfl rfl (by decide) (W := 1) (Nat.le_of_eq rfl) (by decide) (by decide) (by decide) ?_
                intro T27 X27 e27
                refine gIcmpNe X27 hx (hb hby at_160) (pc' := 222) (by decide) (by decide) (pn := 163) rfl (fun (c160 : ¬ ((sh (sh p2 16) 8)).toInt8.toInt32 = (ex (4 : Int32) p1 p2 (1 : Int32) p4)) => ?_) (fun (c160 : ((sh (sh p2 16) 8)).toInt8.toInt32 = (ex (4 : Int32) p1 p2 (1 : Int32) p4)) => ?_)
                · exact absurd (show _ = ex 4 p1 p2 1 p4 from own_b0 _) c160
                · refine gLoadA X27 hx (hb hby at_163) (pc' := 165) rfl rfl rfl ?_
                  refine gIconst X27 hx (v := (5 : Int32)) (hb hby at_165) (pc' := 166) rfl rfl ?_
                  refine gBaload X27 hx hZ e27 A1 (j := (5 : Int32)) (v := (.int ((sh p2 16)).toInt8.toInt32)) (by decide) (own_lt (by have : (5 : Int32).toInt = 5 := rfl; omega)) rfl (hb hby at_166) (pc' := 167) rfl ?_
                  refine gIconst X27 hx (v := (5 : Int32)) (hb hby at_167) (pc' := 168) rfl rfl ?_
                  refine gLoadIN X27 hx (hb hby at_168) (pc' := 169) rfl rfl ?_
                  refine gLoadIN X27 hx (hb hby at_169) (pc' := 170) rfl rfl ?_
                  refine gLoadI X27 hx (hb hby at_170) (pc' := 172) rfl rfl ?_
                  refine gLoadI X27 hx (hb hby at_172) (pc' := 174) rfl rfl ?_
                  refine gCallSJ X27 hx hZ (y := (⟨"com/example/anteroom/anteroom/PayloadWriterSetIntPinLaw", "expect", "(IIIII)B"⟩ : MethodName)) hown e27 (by rw [hml]; rfl) (hw _ (List.mem_of_getElem? (i := 59) rfl)) (hw _ (List.mem_of_getElem? (i := 60) rfl)) (hw _ (List.mem_of_getElem? (i := 61) rfl)) (hw _ (List.mem_of_getElem? (i := 62) rfl)) (by decide) (argsL := [(.int (5 : Int32)), (.int p1), (.int p2), (.int (1 : Int32)), (.int p4)]) (st := [(.int ((sh p2 16)).toInt8.toInt32)]) (c_ex l Z a0 hw (5 : Int32) p1 p2 (1 : Int32) p4 _) (lenOf pd_7 rfl) (hb hby at_174) (pc' := 177) rfl rfl rfl rfl (by decide) (W := 1) (Nat.le_of_eq rfl) (by decide) (by decide) (by decide) ?_
                  intro T28 X28 e28
                  refine gIcmpNe X28 hx (hb hby at_177) (pc' := 222) (by decide) (by decide) (pn := 180) rfl (fun (c177 : ¬ ((sh p2 16)).toInt8.toInt32 = (ex (5 : Int32) p1 p2 (1 : Int32) p4)) => ?_) (fun (c177 : ((sh p2 16)).toInt8.toInt32 = (ex (5 : Int32) p1 p2 (1 : Int32) p4)) => ?_)
                  · exact absurd (show _ = ex 5 p1 p2 1 p4 from rfl) c177
                  · refine gLoadA X28 hx (hb hby at_180) (pc' := 182) rfl rfl rfl ?_
                    refine gBipush X28 hx (v := (6 : Int32)) (hb hby at_182) (pc' := 184) rfl rfl ?_
                    refine gBaload X28 hx hZ e28 A1 (j := (6 : Int32)) (v := (.int ((sh p2 8)).toInt8.toInt32)) (by decide) (own_lt (by have : (6 : Int32).toInt = 6 := rfl; omega)) rfl (hb hby at_184) (pc' := 185) rfl ?_
                    refine gBipush X28 hx (v := (6 : Int32)) (hb hby at_185) (pc' := 187) rfl rfl ?_
                    refine gLoadIN X28 hx (hb hby at_187) (pc' := 188) rfl rfl ?_
                    refine gLoadIN X28 hx (hb hby at_188) (pc' := 189) rfl rfl ?_
                    refine gLoadI X28 hx (hb hby at_189) (pc' := 191) rfl rfl ?_
                    refine gLoadI X28 hx (hb hby at_191) (pc' := 193) rfl rfl ?_
                    refine gCallSJ X28 hx hZ (y := (⟨"com/example/anteroom/anteroom/PayloadWriterSetIntPinLaw", "expect", "(IIIII)B"⟩ : MethodName)) hown e28 (by rw [hml]; rfl) (hw _ (List.mem_of_getElem? (i := 59) rfl)) (hw _ (List.mem_of_getElem? (i := 60) rfl)) (hw _ (List.mem_of_getElem? (i := 61) rfl)) (hw _ (List.mem_of_getElem? (i := 62) rfl)) (by decide) (argsL := [(.int (6 : Int32)), (.int p1), (.int p2), (.int (1 : Int32)), (.int p4)]) (st := [(.int ((sh p2 8)).toInt8.toInt32)]) (c_ex l Z a0 hw (6 : Int32) p1 p2 (1 : Int32) p4 _) (lenOf pd_7 rfl) (hb hby at_193) (pc' := 196) rfl rfl rfl rfl (by decide) (W := 1) (Nat.le_of_eq rfl) (by decide) (by decide) (by decide) ?_
                    intro T29 X29 e29
                    refine gIcmpNe X29 hx (hb hby at_196) (pc' := 222) (by decide) (by decide) (pn := 199) rfl (fun (c196 : ¬ ((sh p2 8)).toInt8.toInt32 = (ex (6 : Int32) p1 p2 (1 : Int32) p4)) => ?_) (fun (c196 : ((sh p2 8)).toInt8.toInt32 = (ex (6 : Int32) p1 p2 (1 : Int32) p4)) => ?_)
                    · exact absurd (show _ = ex 6 p1 p2 1 p4 from rfl) c196
                    · refine gLoadA X29 hx (hb hby at_199) (pc' := 201) rfl rfl rfl ?_
                      refine gBipush X29 hx (v := (7 : Int32)) (hb hby at_201) (pc' := 203) rfl rfl ?_
                      refine gBaload X29 hx hZ e29 A1 (j := (7 : Int32)) (v := (.int (p2).toInt8.toInt32)) (by decide) (own_lt (by have : (7 : Int32).toInt = 7 := rfl; omega)) rfl (hb hby at_203) (pc' := 204) rfl ?_
                      refine gBipush X29 hx (v := (7 : Int32)) (hb hby at_204) (pc' := 206) rfl rfl ?_
                      refine gLoadIN X29 hx (hb hby at_206) (pc' := 207) rfl rfl ?_
                      refine gLoadIN X29 hx (hb hby at_207) (pc' := 208) rfl rfl ?_
                      refine gLoadI X29 hx (hb hby at_208) (pc' := 210) rfl rfl ?_
                      refine gLoadI X29 hx (hb hby at_210) (pc' := 212) rfl rfl ?_
                      refine gCallSJ X29 hx hZ (y := (⟨"com/example/anteroom/anteroom/PayloadWriterSetIntPinLaw", "expect", "(IIIII)B"⟩ : MethodName)) hown e29 (by rw [hml]; rfl) (hw _ (List.mem_of_getElem? (i := 59) rfl)) (hw _ (List.mem_of_getElem? (i := 60) rfl)) (hw _ (List.mem_of_getElem? (i := 61) rfl)) (hw _ (List.mem_of_getElem? (i := 62) rfl)) (by decide) (argsL := [(.int (7 : Int32)), (.int p1), (.int p2), (.int (1 : Int32)), (.int p4)]) (st := [(.int (p2).toInt8.toInt32)]) (c_ex l Z a0 hw (7 : Int32) p1 p2 (1 : Int32) p4 _) (lenOf pd_7 rfl) (hb hby at_212) (pc' := 215) rfl rfl rfl rfl (by decide) (W := 1) (Nat.le_of_eq rfl) (by decide) (by decide) (by decide) ?_
                      intro T30 X30 e30
                      refine gIcmpNe X30 hx (hb hby at_215) (pc' := 222) (by decide) (by decide) (pn := 218) rfl (fun (c215 : ¬ (p2).toInt8.toInt32 = (ex (7 : Int32) p1 p2 (1 : Int32) p4)) => ?_) (fun (c215 : (p2).toInt8.toInt32 = (ex (7 : Int32) p1 p2 (1 : Int32) p4)) => ?_)
                      · exact absurd (show _ = ex 7 p1 p2 1 p4 from own_b3 _) c215
                      · refine gIconst X30 hx (v := (1 : Int32)) (hb hby at_218) (pc' := 219) rfl rfl ?_
                        refine gGoto X30 hx (hb hby at_219) (pc' := 223) (by decide) (by decide) ?_
                        refine gStoreI X30 hx (hb hby at_223) (l' := #[.val (.int p0), .val (.int p1), .val (.int p2), .val (.int p3), .val (.int p4), .val (.int cap), .val (.int (1 : Int32)), .val (.ref b16), .val (.ref b'), .val (.int (1 : Int32)), .unset]) (pc' := 225) rfl rfl ?_
                        refine gLoadA X30 hx (hb hby at_225) (pc' := 227) rfl rfl rfl ?_
                        refine gLoadI X30 hx (hb hby at_227) (pc' := 229) rfl rfl ?_
                        refine gBaload X30 hx hZ e30 A1 (j := (1 : Int32)) (v := (.int ((sh p4 8)).toInt8.toInt32)) (by decide) (own_lt (by have : (1 : Int32).toInt = 1 := rfl; omega)) rfl (hb hby at_229) (pc' := 230) rfl ?_
                        refine gSipush X30 hx (v := (255 : Int32)) (hb hby at_230) (pc' := 233) rfl rfl ?_
                        refine gIand X30 hx (hb hby at_233) (pc' := 234) rfl ?_
                        refine gBipush X30 hx (v := (8 : Int32)) (hb hby at_234) (pc' := 236) rfl rfl ?_
                        refine gIshl X30 hx (hb hby at_236) (pc' := 237) rfl ?_
                        refine gLoadA X30 hx (hb hby at_237) (pc' := 239) rfl rfl rfl ?_
                        refine gLoadI X30 hx (hb hby at_239) (pc' := 241) rfl rfl ?_
                        refine gIconst X30 hx (v := (1 : Int32)) (hb hby at_241) (pc' := 242) rfl rfl ?_
                        refine gIadd X30 hx (hb hby at_242) (pc' := 243) rfl ?_
                        show Goes p e below _ T30 (mkF m 243 #[.val (.int p0), .val (.int p1), .val (.int p2), .val (.int p3), .val (.int p4), .val (.int cap), .val (.int (1 : Int32)), .val (.ref b16), .val (.ref b'), .val (.int (1 : Int32)), .unset] [(.int (2 : Int32)), (.ref b'), (.int ((((sh p4 8)).toInt8.toInt32 &&& (255 : Int32)) <<< ((8 : Int32) &&& 31)))])
                        refine gBaload X30 hx hZ e30 A1 (j := (2 : Int32)) (v := (.int (p4).toInt8.toInt32)) (by decide) (own_lt (by have : (2 : Int32).toInt = 2 := rfl; omega)) rfl (hb hby at_243) (pc' := 244) rfl ?_
                        refine gSipush X30 hx (v := (255 : Int32)) (hb hby at_244) (pc' := 247) rfl rfl ?_
                        refine gIand X30 hx (hb hby at_247) (pc' := 248) rfl ?_
                        refine gIor X30 hx (hb hby at_248) (pc' := 249) rfl ?_
                        refine gStoreI X30 hx (hb hby at_249) (l' := #[.val (.int p0), .val (.int p1), .val (.int p2), .val (.int p3), .val (.int p4), .val (.int cap), .val (.int (1 : Int32)), .val (.ref b16), .val (.ref b'), .val (.int (1 : Int32)), .val (.int (((((sh p4 8)).toInt8.toInt32 &&& (255 : Int32)) <<< ((8 : Int32) &&& 31)) ||| ((p4).toInt8.toInt32 &&& (255 : Int32))))]) (pc' := 251) rfl rfl ?_
                        refine gLoadI X30 hx (hb hby at_251) (pc' := 253) rfl rfl ?_
                        refine gIfEqT X30 hx (hb hby at_253) (pc' := 270) (by decide) (by decide) (pn := 256) rfl (fun (c253 : (1 : Int) = (0 : Int)) => ?_) (fun (c253 : ¬ (1 : Int) = (0 : Int)) => ?_)
                        · exact absurd c253 (by decide)
                        · refine gLoadI X30 hx (hb hby at_256) (pc' := 258) rfl rfl ?_
                          refine gLoadI X30 hx (hb hby at_258) (pc' := 260) rfl rfl ?_
                          refine gLdc X30 hx hZ hown (hw _ (List.mem_of_getElem? (i := 63) rfl)) (hb hby at_260) (pc' := 262) rfl ?_
                          refine gIand X30 hx (hb hby at_262) (pc' := 263) rfl ?_
                          refine gIcmpNe X30 hx (hb hby at_263) (pc' := 270) (by decide) (by decide) (pn := 266) rfl (fun (c263 : ¬ (((((sh p4 8)).toInt8.toInt32 &&& (255 : Int32)) <<< ((8 : Int32) &&& 31)) ||| ((p4).toInt8.toInt32 &&& (255 : Int32))) = (p4 &&& (65535 : Int32))) => ?_) (fun (c263 : (((((sh p4 8)).toInt8.toInt32 &&& (255 : Int32)) <<< ((8 : Int32) &&& 31)) ||| ((p4).toInt8.toInt32 &&& (255 : Int32))) = (p4 &&& (65535 : Int32))) => ?_)
                          · exact absurd (own_rd p4) c263
                          · refine gIconst X30 hx (v := (1 : Int32)) (hb hby at_266) (pc' := 267) rfl rfl ?_
                            refine gGoto X30 hx (hb hby at_267) (pc' := 271) (by decide) (by decide) ?_
                            exact gRetN X30 hx hlk hret (by simp) (hb hby at_271) (w := (1 : Int32)) rfl (by decide) (by decide) (⟨rfl, N20⟩)
      · exact absurd c73 (by omega)
    · exact absurd c63 (by decide)
  · refine gStoreI X0 hx (hb hby at_13) (l' := #[.val (.int p0), .val (.int p1), .val (.int p2), .val (.int p3), .val (.int p4), .val (.int cap), .val (.int (2 : Int32)), .unset, .unset, .unset, .unset]) (pc' := 15) rfl rfl ?_
    refine gNew X0 hx hZ hown (hw _ (List.mem_of_getElem? (i := 1) rfl)) (hw _ (List.mem_of_getElem? (i := 2) rfl)) (hw _ (List.mem_of_getElem? (i := 3) rfl)) e0 (hb hby at_15) (pc' := 18) rfl (by decide) (by decide) (fun T31 h31 b31 X31 e31 g31 E31 A31 D31 => ?_)
    have sz_b31 : h0.size ≤ b31 := Nat.le_trans (Nat.le_refl _) (Nat.le_of_eq g31.symm)
    have zs31 : h0.size ≤ h31.size := Nat.le_trans (Nat.le_refl _) E31.1
    have F31_octets : Fld Z h31 b31 "com/example/anteroom/anteroom/PayloadWriter" "octets" "[B" .null := D31 (Or.inl (hw _ (List.mem_of_getElem? (i := 12) rfl))) (ty := (.array .byte)) (by decide)
    have F31_length : Fld Z h31 b31 "com/example/anteroom/anteroom/PayloadWriter" "length" "I" (.int (0 : Int32)) := D31 (Or.inl (hw _ (List.mem_of_getElem? (i := 28) rfl))) (ty := .int) (by decide)
    refine gDup X31 hx (hb hby at_18) (pc' := 19) rfl rfl ?_
    refine gLoadI X31 hx (hb hby at_19) (pc' := 21) rfl rfl ?_
    refine gCallI X31 hx hZ (y := (⟨"com/example/anteroom/anteroom/PayloadWriter", "<init>", "(I)V"⟩ : MethodName)) rfl hown e31 (by rw [hml]; rfl) (hw _ (List.mem_of_getElem? (i := 4) rfl)) (hw _ (List.mem_of_getElem? (i := 5) rfl)) (hw _ (List.mem_of_getElem? (i := 3) rfl)) (hw _ (List.mem_of_getElem? (i := 6) rfl)) (by decide) (argsL := [(.int cap)]) (st := [(.ref b31)]) (c_init l Z a0 hw b31 cap h0.size h31 sz_b31 zs31 hcap.1 hcap.2 A31 F31_octets F31_length) (lenOf pd_4 rfl) (hb hby at_21) (pc' := 24) rfl rfl (by decide) (W := 1) (Nat.le_of_eq rfl) (by decide) (by decide) (by decide) ?_
    intro T32 v32 L32 X32 hQ32
    obtain ⟨rfl, Nq32, hB32⟩ := hQ32
    have N32 := Fr.app (Fr.nil h0.size) Nq32
    have hb32 := hB32
    obtain ⟨_, _, _, _, _, _, _, _, E32, -⟩ := hb32
    refine gStoreA X32 hx (hb hby at_24) (l' := #[.val (.int p0), .val (.int p1), .val (.int p2), .val (.int p3), .val (.int p4), .val (.int cap), .val (.int (2 : Int32)), .val (.ref b31), .unset, .unset, .unset]) (pc' := 26) rfl rfl rfl ?_
    refine gLoadA X32 hx (hb hby at_26) (pc' := 28) rfl rfl rfl ?_
    refine gLoadIN X32 hx (hb hby at_28) (pc' := 29) rfl rfl ?_
    refine gCallV X32 hx hZ (y := (⟨"com/example/anteroom/anteroom/PayloadWriter", "writeInt32", "(I)Lcom/example/anteroom/anteroom/PayloadWriter;"⟩ : MethodName)) hown rfl (by rw [hml]; rfl) E32 (hw _ (List.mem_of_getElem? (i := 13) rfl)) (hw _ (List.mem_of_getElem? (i := 14) rfl)) (hw _ (List.mem_of_getElem? (i := 16) rfl)) (hw _ (List.mem_of_getElem? (i := 15) rfl)) (hw _ (List.mem_of_getElem? (i := 3) rfl)) (hw _ (List.mem_of_getElem? (i := 17) rfl)) (by decide) (argsL := [(.int p1)]) (st := []) (c_w32 l Z a0 hw b31 p1 [] h0.size T32.heap hB32 (by simp)) (lenOf pd_3 rfl) (hb hby at_29) (pc' := 32) rfl rfl (by decide) (W := 0) (Nat.le_of_eq rfl) (by decide) (by decide) (by decide) ?_
    intro T33 v33 L33 X33 hQ33
    obtain ⟨rfl, Nq33, hB33⟩ := hQ33
    have N33 := Fr.app N32 Nq33
    have hb33 := hB33
    obtain ⟨_, _, _, _, _, _, _, _, E33, -⟩ := hb33
    refine gPop X33 hx (hb hby at_32) (pc' := 33) rfl rfl ?_
    refine gLoadA X33 hx (hb hby at_33) (pc' := 35) rfl rfl rfl ?_
    refine gLoadIN X33 hx (hb hby at_35) (pc' := 36) rfl rfl ?_
    refine gCallV X33 hx hZ (y := (⟨"com/example/anteroom/anteroom/PayloadWriter", "writeInt32", "(I)Lcom/example/anteroom/anteroom/PayloadWriter;"⟩ : MethodName)) hown rfl (by rw [hml]; rfl) E33 (hw _ (List.mem_of_getElem? (i := 13) rfl)) (hw _ (List.mem_of_getElem? (i := 14) rfl)) (hw _ (List.mem_of_getElem? (i := 16) rfl)) (hw _ (List.mem_of_getElem? (i := 15) rfl)) (hw _ (List.mem_of_getElem? (i := 3) rfl)) (hw _ (List.mem_of_getElem? (i := 17) rfl)) (by decide) (argsL := [(.int p2)]) (st := []) (c_w32 l Z a0 hw b31 p2 [byteOf (sh (sh p1 16) 8), byteOf (sh p1 16), byteOf (sh p1 8), byteOf p1] h0.size T33.heap hB33 (by simp)) (lenOf pd_3 rfl) (hb hby at_36) (pc' := 39) rfl rfl (by decide) (W := 0) (Nat.le_of_eq rfl) (by decide) (by decide) (by decide) ?_
    intro T34 v34 L34 X34 hQ34
    obtain ⟨rfl, Nq34, hB34⟩ := hQ34
    have N34 := Fr.app N33 Nq34
    have hb34 := hB34
    obtain ⟨_, _, _, _, _, _, _, _, E34, -⟩ := hb34
    refine gPop X34 hx (hb hby at_39) (pc' := 40) rfl rfl ?_
    refine gLoadA X34 hx (hb hby at_40) (pc' := 42) rfl rfl rfl ?_
    refine gLoadI X34 hx (hb hby at_42) (pc' := 44) rfl rfl ?_
    refine gLoadI X34 hx (hb hby at_44) (pc' := 46) rfl rfl ?_
    refine gCallV X34 hx hZ (y := (⟨"com/example/anteroom/anteroom/PayloadWriter", "setInt", "(II)V"⟩ : MethodName)) hown rfl (by rw [hml]; rfl) E34 (hw _ (List.mem_of_getElem? (i := 44) rfl)) (hw _ (List.mem_of_getElem? (i := 45) rfl)) (hw _ (List.mem_of_getElem? (i := 47) rfl)) (hw _ (List.mem_of_getElem? (i := 46) rfl)) (hw _ (List.mem_of_getElem? (i := 3) rfl)) (hw _ (List.mem_of_getElem? (i := 48) rfl)) (by decide) (argsL := [(.int (2 : Int32)), (.int p4)]) (st := []) (c_set l Z a0 hw b31 (2) p4 2 [byteOf (sh (sh p1 16) 8), byteOf (sh p1 16), byteOf (sh p1 8), byteOf p1, byteOf (sh (sh p2 16) 8), byteOf (sh p2 16), byteOf (sh p2 8), byteOf p2] h0.size T34.heap hB34 rfl (by simp) (by simp)) (lenOf pd_6 rfl) (hb hby at_46) (pc' := 49) rfl rfl (by decide) (W := 0) (Nat.le_of_eq rfl) (by decide) (by decide) (by decide) ?_
    intro T35 v35 L35 X35 hQ35
    obtain ⟨rfl, Nq35, hB35⟩ := hQ35
    have N35 := Fr.app N34 Nq35
    replace hB35 : Buf Z T35.heap h0.size b31 [byteOf (sh (sh p1 16) 8), byteOf (sh p1 16), byteOf (sh p4 8), byteOf p4, byteOf (sh (sh p2 16) 8), byteOf (sh p2 16), byteOf (sh p2 8), byteOf p2] 0 := hB35
    obtain ⟨b', ck', n', k', r', -, -, -, E1, F1, F2, A1, hk', hn', -, -⟩ := hB35
    simp only [List.length_cons, List.length_nil] at hk' hn'
    obtain rfl : k' = 8 := Int32.toInt_inj.mp hk'
    refine gLoadA X35 hx (hb hby at_49) (pc' := 51) rfl rfl rfl ?_
    refine gCallVJ X35 hx hZ (y := (⟨"com/example/anteroom/anteroom/PayloadWriter", "array", "()[B"⟩ : MethodName)) hown rfl (by rw [hml]; rfl) E1 (hw _ (List.mem_of_getElem? (i := 49) rfl)) (hw _ (List.mem_of_getElem? (i := 50) rfl)) (hw _ (List.mem_of_getElem? (i := 52) rfl)) (hw _ (List.mem_of_getElem? (i := 51) rfl)) (hw _ (List.mem_of_getElem? (i := 3) rfl)) (hw _ (List.mem_of_getElem? (i := 53) rfl)) (by decide) (argsL := []) (st := []) (c_arr l Z a0 hw b31 b' 0 _ F1) (lenOf pd_2 rfl) (hb hby at_51) (pc' := 54) rfl rfl rfl rfl (by decide) (W := 0) (Nat.le_of_eq rfl) (by decide) (by decide) (by decide) ?_
    intro T36 X36 e36
    refine gStoreA X36 hx (hb hby at_54) (l' := #[.val (.int p0), .val (.int p1), .val (.int p2), .val (.int p3), .val (.int p4), .val (.int cap), .val (.int (2 : Int32)), .val (.ref b31), .val (.ref b'), .unset, .unset]) (pc' := 56) rfl rfl rfl ?_
    refine gLoadA X36 hx (hb hby at_56) (pc' := 58) rfl rfl rfl ?_
    refine gCallVJ X36 hx hZ (y := (⟨"com/example/anteroom/anteroom/PayloadWriter", "length", "()I"⟩ : MethodName)) hown e36 (by rw [hml]; rfl) E1 (hw _ (List.mem_of_getElem? (i := 54) rfl)) (hw _ (List.mem_of_getElem? (i := 55) rfl)) (hw _ (List.mem_of_getElem? (i := 57) rfl)) (hw _ (List.mem_of_getElem? (i := 56) rfl)) (hw _ (List.mem_of_getElem? (i := 3) rfl)) (hw _ (List.mem_of_getElem? (i := 58) rfl)) (by decide) (argsL := []) (st := []) (c_len l Z a0 hw b31 0 8 _ F2) (lenOf pd_0 rfl) (hb hby at_58) (pc' := 61) rfl rfl rfl rfl (by decide) (W := 0) (Nat.le_of_eq rfl) (by decide) (by decide) (by decide) ?_
    intro T37 X37 e37
    refine gBipush X37 hx (v := (8 : Int32)) (hb hby at_61) (pc' := 63) rfl rfl ?_
    refine gIcmpEqT X37 hx (hb hby at_63) (pc' := 68) (by decide) (by decide) (pn := 66) rfl (fun (c63 : (8 : Int) = (8 : Int)) => ?_) (fun (c63 : ¬ (8 : Int) = (8 : Int)) => ?_)
    · refine gLoadA X37 hx (hb hby at_68) (pc' := 70) rfl rfl rfl ?_
      refine gArrLen X37 hx hZ e37 A1 (hb hby at_70) (pc' := 71) rfl ?_
      refine gBipush X37 hx (v := (8 : Int32)) (hb hby at_71) (pc' := 73) rfl rfl ?_
      refine gIcmpGe X37 hx (hb hby at_73) (pc' := 78) (by decide) (by decide) (pn := 76) rfl (fun (c73 : (8 : Int) ≤ n'.toInt) => ?_) (fun (c73 : n'.toInt < (8 : Int)) => ?_)
      · refine gLoadA X37 hx (hb hby at_78) (pc' := 80) rfl rfl rfl ?_
        refine gIconst X37 hx (v := (0 : Int32)) (hb hby at_80) (pc' := 81) rfl rfl ?_
        refine gBaload X37 hx hZ e37 A1 (j := (0 : Int32)) (v := (.int ((sh (sh p1 16) 8)).toInt8.toInt32)) (by decide) (own_lt (by have : (0 : Int32).toInt = 0 := rfl; omega)) rfl (hb hby at_81) (pc' := 82) rfl ?_
        refine gIconst X37 hx (v := (0 : Int32)) (hb hby at_82) (pc' := 83) rfl rfl ?_
        refine gLoadIN X37 hx (hb hby at_83) (pc' := 84) rfl rfl ?_
        refine gLoadIN X37 hx (hb hby at_84) (pc' := 85) rfl rfl ?_
        refine gLoadI X37 hx (hb hby at_85) (pc' := 87) rfl rfl ?_
        refine gLoadI X37 hx (hb hby at_87) (pc' := 89) rfl rfl ?_
        refine gCallSJ X37 hx hZ (y := (⟨"com/example/anteroom/anteroom/PayloadWriterSetIntPinLaw", "expect", "(IIIII)B"⟩ : MethodName)) hown e37 (by rw [hml]; rfl) (hw _ (List.mem_of_getElem? (i := 59) rfl)) (hw _ (List.mem_of_getElem? (i := 60) rfl)) (hw _ (List.mem_of_getElem? (i := 61) rfl)) (hw _ (List.mem_of_getElem? (i := 62) rfl)) (by decide) (argsL := [(.int (0 : Int32)), (.int p1), (.int p2), (.int (2 : Int32)), (.int p4)]) (st := [(.int ((sh (sh p1 16) 8)).toInt8.toInt32)]) (c_ex l Z a0 hw (0 : Int32) p1 p2 (2 : Int32) p4 _) (lenOf pd_7 rfl) (hb hby at_89) (pc' := 92) rfl rfl rfl rfl (by decide) (W := 1) (Nat.le_of_eq rfl) (by decide) (by decide) (by decide) ?_
        intro T38 X38 e38
        refine gIcmpNe X38 hx (hb hby at_92) (pc' := 222) (by decide) (by decide) (pn := 95) rfl (fun (c92 : ¬ ((sh (sh p1 16) 8)).toInt8.toInt32 = (ex (0 : Int32) p1 p2 (2 : Int32) p4)) => ?_) (fun (c92 : ((sh (sh p1 16) 8)).toInt8.toInt32 = (ex (0 : Int32) p1 p2 (2 : Int32) p4)) => ?_)
        · exact absurd (show _ = ex 0 p1 p2 2 p4 from own_b0 _) c92
        · refine gLoadA X38 hx (hb hby at_95) (pc' := 97) rfl rfl rfl ?_
          refine gIconst X38 hx (v := (1 : Int32)) (hb hby at_97) (pc' := 98) rfl rfl ?_
          refine gBaload X38 hx hZ e38 A1 (j := (1 : Int32)) (v := (.int ((sh p1 16)).toInt8.toInt32)) (by decide) (own_lt (by have : (1 : Int32).toInt = 1 := rfl; omega)) rfl (hb hby at_98) (pc' := 99) rfl ?_
          refine gIconst X38 hx (v := (1 : Int32)) (hb hby at_99) (pc' := 100) rfl rfl ?_
          refine gLoadIN X38 hx (hb hby at_100) (pc' := 101) rfl rfl ?_
          refine gLoadIN X38 hx (hb hby at_101) (pc' := 102) rfl rfl ?_
          refine gLoadI X38 hx (hb hby at_102) (pc' := 104) rfl rfl ?_
          refine gLoadI X38 hx (hb hby at_104) (pc' := 106) rfl rfl ?_
          refine gCallSJ X38 hx hZ (y := (⟨"com/example/anteroom/anteroom/PayloadWriterSetIntPinLaw", "expect", "(IIIII)B"⟩ : MethodName)) hown e38 (by rw [hml]; rfl) (hw _ (List.mem_of_getElem? (i := 59) rfl)) (hw _ (List.mem_of_getElem? (i := 60) rfl)) (hw _ (List.mem_of_getElem? (i := 61) rfl)) (hw _ (List.mem_of_getElem? (i := 62) rfl)) (by decide) (argsL := [(.int (1 : Int32)), (.int p1), (.int p2), (.int (2 : Int32)), (.int p4)]) (st := [(.int ((sh p1 16)).toInt8.toInt32)]) (c_ex l Z a0 hw (1 : Int32) p1 p2 (2 : Int32) p4 _) (lenOf pd_7 rfl) (hb hby at_106) (pc' := 109) rfl rfl rfl rfl (by decide) (W := 1) (Nat.le_of_eq rfl) (by decide) (by decide) (by decide) ?_
          intro T39 X39 e39
          refine gIcmpNe X39 hx (hb hby at_109) (pc' := 222) (by decide) (by decide) (pn := 112) rfl (fun (c109 : ¬ ((sh p1 16)).toInt8.toInt32 = (ex (1 : Int32) p1 p2 (2 : Int32) p4)) => ?_) (fun (c109 : ((sh p1 16)).toInt8.toInt32 = (ex (1 : Int32) p1 p2 (2 : Int32) p4)) => ?_)
          · exact absurd (show _ = ex 1 p1 p2 2 p4 from rfl) c109
          · refine gLoadA X39 hx (hb hby at_112) (pc' := 114) rfl rfl rfl ?_
            refine gIconst X39 hx (v := (2 : Int32)) (hb hby at_114) (pc' := 115) rfl rfl ?_
            refine gBaload X39 hx hZ e39 A1 (j := (2 : Int32)) (v := (.int ((sh p4 8)).toInt8.toInt32)) (by decide) (own_lt (by have : (2 : Int32).toInt = 2 := rfl; omega)) rfl (hb hby at_115) (pc' := 116) rfl ?_
            refine gIconst X39 hx (v := (2 : Int32)) (hb hby at_116) (pc' := 117) rfl rfl ?_
            refine gLoadIN X39 hx (hb hby at_117) (pc' := 118) rfl rfl ?_
            refine gLoadIN X39 hx (hb hby at_118) (pc' := 119) rfl rfl ?_
            refine gLoadI X39 hx (hb hby at_119) (pc' := 121) rfl rfl ?_
            refine gLoadI X39 hx (hb hby at_121) (pc' := 123) rfl rfl ?_
            refine gCallSJ X39 hx hZ (y := (⟨"com/example/anteroom/anteroom/PayloadWriterSetIntPinLaw", "expect", "(IIIII)B"⟩ : MethodName)) hown e39 (by rw [hml]; rfl) (hw _ (List.mem_of_getElem? (i := 59) rfl)) (hw _ (List.mem_of_getElem? (i := 60) rfl)) (hw _ (List.mem_of_getElem? (i := 61) rfl)) (hw _ (List.mem_of_getElem? (i := 62) rfl)) (by decide) (argsL := [(.int (2 : Int32)), (.int p1), (.int p2), (.int (2 : Int32)), (.int p4)]) (st := [(.int ((sh p4 8)).toInt8.toInt32)]) (c_ex l Z a0 hw (2 : Int32) p1 p2 (2 : Int32) p4 _) (lenOf pd_7 rfl) (hb hby at_123) (pc' := 126) rfl rfl rfl rfl (by decide) (W := 1) (Nat.le_of_eq rfl) (by decide) (by decide) (by decide) ?_
            intro T40 X40 e40
            refine gIcmpNe X40 hx (hb hby at_126) (pc' := 222) (by decide) (by decide) (pn := 129) rfl (fun (c126 : ¬ ((sh p4 8)).toInt8.toInt32 = (ex (2 : Int32) p1 p2 (2 : Int32) p4)) => ?_) (fun (c126 : ((sh p4 8)).toInt8.toInt32 = (ex (2 : Int32) p1 p2 (2 : Int32) p4)) => ?_)
            · exact absurd (show _ = ex 2 p1 p2 2 p4 from rfl) c126
            · refine gLoadA X40 hx (hb hby at_129) (pc' := 131) rfl rfl rfl ?_
              refine gIconst X40 hx (v := (3 : Int32)) (hb hby at_131) (pc' := 132) rfl rfl ?_
              refine gBaload X40 hx hZ e40 A1 (j := (3 : Int32)) (v := (.int (p4).toInt8.toInt32)) (by decide) (own_lt (by have : (3 : Int32).toInt = 3 := rfl; omega)) rfl (hb hby at_132) (pc' := 133) rfl ?_
              refine gIconst X40 hx (v := (3 : Int32)) (hb hby at_133) (pc' := 134) rfl rfl ?_
              refine gLoadIN X40 hx (hb hby at_134) (pc' := 135) rfl rfl ?_
              refine gLoadIN X40 hx (hb hby at_135) (pc' := 136) rfl rfl ?_
              refine gLoadI X40 hx (hb hby at_136) (pc' := 138) rfl rfl ?_
              refine gLoadI X40 hx (hb hby at_138) (pc' := 140) rfl rfl ?_
              refine gCallSJ X40 hx hZ (y := (⟨"com/example/anteroom/anteroom/PayloadWriterSetIntPinLaw", "expect", "(IIIII)B"⟩ : MethodName)) hown e40 (by rw [hml]; rfl) (hw _ (List.mem_of_getElem? (i := 59) rfl)) (hw _ (List.mem_of_getElem? (i := 60) rfl)) (hw _ (List.mem_of_getElem? (i := 61) rfl)) (hw _ (List.mem_of_getElem? (i := 62) rfl)) (by decide) (argsL := [(.int (3 : Int32)), (.int p1), (.int p2), (.int (2 : Int32)), (.int p4)]) (st := [(.int (p4).toInt8.toInt32)]) (c_ex l Z a0 hw (3 : Int32) p1 p2 (2 : Int32) p4 _) (lenOf pd_7 rfl) (hb hby at_140) (pc' := 143) rfl rfl rfl rfl (by decide) (W := 1) (Nat.le_of_eq rfl) (by decide) (by decide) (by decide) ?_
              intro T41 X41 e41
              refine gIcmpNe X41 hx (hb hby at_143) (pc' := 222) (by decide) (by decide) (pn := 146) rfl (fun (c143 : ¬ (p4).toInt8.toInt32 = (ex (3 : Int32) p1 p2 (2 : Int32) p4)) => ?_) (fun (c143 : (p4).toInt8.toInt32 = (ex (3 : Int32) p1 p2 (2 : Int32) p4)) => ?_)
              · exact absurd (show _ = ex 3 p1 p2 2 p4 from rfl) c143
              · refine gLoadA X41 hx (hb hby at_146) (pc' := 148) rfl rfl rfl ?_
                refine gIconst X41 hx (v := (4 : Int32)) (hb hby at_148) (pc' := 149) rfl rfl ?_
                refine gBaload X41 hx hZ e41 A1 (j := (4 : Int32)) (v := (.int ((sh (sh p2 16) 8)).toInt8.toInt32)) (by decide) (own_lt (by have : (4 : Int32).toInt = 4 := rfl; omega)) rfl (hb hby at_149) (pc' := 150) rfl ?_
                refine gIconst X41 hx (v := (4 : Int32)) (hb hby at_150) (pc' := 151) rfl rfl ?_
                refine gLoadIN X41 hx (hb hby at_151) (pc' := 152) rfl rfl ?_
                refine gLoadIN X41 hx (hb hby at_152) (pc' := 153) rfl rfl ?_
                refine gLoadI X41 hx (hb hby at_153) (pc' := 155) rfl rfl ?_
                refine gLoadI X41 hx (hb hby at_155) (pc' := 157) rfl rfl ?_
                refine gCallSJ X41 hx hZ (y := (⟨"com/example/anteroom/anteroom/PayloadWriterSetIntPinLaw", "expect", "(IIIII)B"⟩ : MethodName)) hown e41 (by rw [hml]; rfl) (hw _ (List.mem_of_getElem? (i := 59) rfl)) (hw _ (List.mem_of_getElem? (i := 60) rfl)) (hw _ (List.mem_of_getElem? (i := 61) rfl)) (hw _ (List.mem_of_getElem? (i := 62) rfl)) (by decide) (argsL := [(.int (4 : Int32)), (.int p1), (.int p2), (.int (2 : Int32)), (.int p4)]) (st := [(.int ((sh (sh p2 16) 8)).toInt8.toInt32)]) (c_ex l Z a0 hw (4 : Int32) p1 p2 (2 : Int32) p4 _) (lenOf pd_7 rfl) (hb hby at_157) (pc' := 160) rfl rfl rfl rfl (by decide) (W := 1) (Nat.le_of_eq rfl) (by decide) (by decide) (by decide) ?_
                intro T42 X42 e42
                refine gIcmpNe X42 hx (hb hby at_160) (pc' := 222) (by decide) (by decide) (pn := 163) rfl (fun (c160 : ¬ ((sh (sh p2 16) 8)).toInt8.toInt32 = (ex (4 : Int32) p1 p2 (2 : Int32) p4)) => ?_) (fun (c160 : ((sh (sh p2 16) 8)).toInt8.toInt32 = (ex (4 : Int32) p1 p2 (2 : Int32) p4)) => ?_)
                · exact absurd (show _ = ex 4 p1 p2 2 p4 from own_b0 _) c160
                · refine gLoadA X42 hx (hb hby at_163) (pc' := 165) rfl rfl rfl ?_
                  refine gIconst X42 hx (v := (5 : Int32)) (hb hby at_165) (pc' := 166) rfl rfl ?_
                  refine gBaload X42 hx hZ e42 A1 (j := (5 : Int32)) (v := (.int ((sh p2 16)).toInt8.toInt32)) (by decide) (own_lt (by have : (5 : Int32).toInt = 5 := rfl; omega)) rfl (hb hby at_166) (pc' := 167) rfl ?_
                  refine gIconst X42 hx (v := (5 : Int32)) (hb hby at_167) (pc' := 168) rfl rfl ?_
                  refine gLoadIN X42 hx (hb hby at_168) (pc' := 169) rfl rfl ?_
                  refine gLoadIN X42 hx (hb hby at_169) (pc' := 170) rfl rfl ?_
                  refine gLoadI X42 hx (hb hby at_170) (pc' := 172) rfl rfl ?_
                  refine gLoadI X42 hx (hb hby at_172) (pc' := 174) rfl rfl ?_
                  refine gCallSJ X42 hx hZ (y := (⟨"com/example/anteroom/anteroom/PayloadWriterSetIntPinLaw", "expect", "(IIIII)B"⟩ : MethodName)) hown e42 (by rw [hml]; rfl) (hw _ (List.mem_of_getElem? (i := 59) rfl)) (hw _ (List.mem_of_getElem? (i := 60) rfl)) (hw _ (List.mem_of_getElem? (i := 61) rfl)) (hw _ (List.mem_of_getElem? (i := 62) rfl)) (by decide) (argsL := [(.int (5 : Int32)), (.int p1), (.int p2), (.int (2 : Int32)), (.int p4)]) (st := [(.int ((sh p2 16)).toInt8.toInt32)]) (c_ex l Z a0 hw (5 : Int32) p1 p2 (2 : Int32) p4 _) (lenOf pd_7 rfl) (hb hby at_174) (pc' := 177) rfl rfl rfl rfl (by decide) (W := 1) (Nat.le_of_eq rfl) (by decide) (by decide) (by decide) ?_
                  intro T43 X43 e43
                  refine gIcmpNe X43 hx (hb hby at_177) (pc' := 222) (by decide) (by decide) (pn := 180) rfl (fun (c177 : ¬ ((sh p2 16)).toInt8.toInt32 = (ex (5 : Int32) p1 p2 (2 : Int32) p4)) => ?_) (fun (c177 : ((sh p2 16)).toInt8.toInt32 = (ex (5 : Int32) p1 p2 (2 : Int32) p4)) => ?_)
                  · exact absurd (show _ = ex 5 p1 p2 2 p4 from rfl) c177
                  · refine gLoadA X43 hx (hb hby at_180) (pc' := 182) rfl rfl rfl ?_
                    refine gBipush X43 hx (v := (6 : Int32)) (hb hby at_182) (pc' := 184) rfl rfl ?_
                    refine gBaload X43 hx hZ e43 A1 (j := (6 : Int32)) (v := (.int ((sh p2 8)).toInt8.toInt32)) (by decide) (own_lt (by have : (6 : Int32).toInt = 6 := rfl; omega)) rfl (hb hby at_184) (pc' := 185) rfl ?_
                    refine gBipush X43 hx (v := (6 : Int32)) (hb hby at_185) (pc' := 187) rfl rfl ?_
                    refine gLoadIN X43 hx (hb hby at_187) (pc' := 188) rfl rfl ?_
                    refine gLoadIN X43 hx (hb hby at_188) (pc' := 189) rfl rfl ?_
                    refine gLoadI X43 hx (hb hby at_189) (pc' := 191) rfl rfl ?_
                    refine gLoadI X43 hx (hb hby at_191) (pc' := 193) rfl rfl ?_
                    refine gCallSJ X43 hx hZ (y := (⟨"com/example/anteroom/anteroom/PayloadWriterSetIntPinLaw", "expect", "(IIIII)B"⟩ : MethodName)) hown e43 (by rw [hml]; rfl) (hw _ (List.mem_of_getElem? (i := 59) rfl)) (hw _ (List.mem_of_getElem? (i := 60) rfl)) (hw _ (List.mem_of_getElem? (i := 61) rfl)) (hw _ (List.mem_of_getElem? (i := 62) rfl)) (by decide) (argsL := [(.int (6 : Int32)), (.int p1), (.int p2), (.int (2 : Int32)), (.int p4)]) (st := [(.int ((sh p2 8)).toInt8.toInt32)]) (c_ex l Z a0 hw (6 : Int32) p1 p2 (2 : Int32) p4 _) (lenOf pd_7 rfl) (hb hby at_193) (pc' := 196) rfl rfl rfl rfl (by decide) (W := 1) (Nat.le_of_eq rfl) (by decide) (by decide) (by decide) ?_
                    intro T44 X44 e44
                    refine gIcmpNe X44 hx (hb hby at_196) (pc' := 222) (by decide) (by decide) (pn := 199) rfl (fun (c196 : ¬ ((sh p2 8)).toInt8.toInt32 = (ex (6 : Int32) p1 p2 (2 : Int32) p4)) => ?_) (fun (c196 : ((sh p2 8)).toInt8.toInt32 = (ex (6 : Int32) p1 p2 (2 : Int32) p4)) => ?_)
                    · exact absurd (show _ = ex 6 p1 p2 2 p4 from rfl) c196
                    · refine gLoadA X44 hx (hb hby at_199) (pc' := 201) rfl rfl rfl ?_
                      refine gBipush X44 hx (v := (7 : Int32)) (hb hby at_201) (pc' := 203) rfl rfl ?_
                      refine gBaload X44 hx hZ e44 A1 (j := (7 : Int32)) (v := (.int (p2).toInt8.toInt32)) (by decide) (own_lt (by have : (7 : Int32).toInt = 7 := rfl; omega)) rfl (hb hby at_203) (pc' := 204) rfl ?_
                      refine gBipush X44 hx (v := (7 : Int32)) (hb hby at_204) (pc' := 206) rfl rfl ?_
                      refine gLoadIN X44 hx (hb hby at_206) (pc' := 207) rfl rfl ?_
                      refine gLoadIN X44 hx (hb hby at_207) (pc' := 208) rfl rfl ?_
                      refine gLoadI X44 hx (hb hby at_208) (pc' := 210) rfl rfl ?_
                      refine gLoadI X44 hx (hb hby at_210) (pc' := 212) rfl rfl ?_
                      refine gCallSJ X44 hx hZ (y := (⟨"com/example/anteroom/anteroom/PayloadWriterSetIntPinLaw", "expect", "(IIIII)B"⟩ : MethodName)) hown e44 (by rw [hml]; rfl) (hw _ (List.mem_of_getElem? (i := 59) rfl)) (hw _ (List.mem_of_getElem? (i := 60) rfl)) (hw _ (List.mem_of_getElem? (i := 61) rfl)) (hw _ (List.mem_of_getElem? (i := 62) rfl)) (by decide) (argsL := [(.int (7 : Int32)), (.int p1), (.int p2), (.int (2 : Int32)), (.int p4)]) (st := [(.int (p2).toInt8.toInt32)]) (c_ex l Z a0 hw (7 : Int32) p1 p2 (2 : Int32) p4 _) (lenOf pd_7 rfl) (hb hby at_212) (pc' := 215) rfl rfl rfl rfl (by decide) (W := 1) (Nat.le_of_eq rfl) (by decide) (by decide) (by decide) ?_
                      intro T45 X45 e45
                      refine gIcmpNe X45 hx (hb hby at_215) (pc' := 222) (by decide) (by decide) (pn := 218) rfl (fun (c215 : ¬ (p2).toInt8.toInt32 = (ex (7 : Int32) p1 p2 (2 : Int32) p4)) => ?_) (fun (c215 : (p2).toInt8.toInt32 = (ex (7 : Int32) p1 p2 (2 : Int32) p4)) => ?_)
                      · exact absurd (show _ = ex 7 p1 p2 2 p4 from own_b3 _) c215
                      · refine gIconst X45 hx (v := (1 : Int32)) (hb hby at_218) (pc' := 219) rfl rfl ?_
                        refine gGoto X45 hx (hb hby at_219) (pc' := 223) (by decide) (by decide) ?_
                        refine gStoreI X45 hx (hb hby at_223) (l' := #[.val (.int p0), .val (.int p1), .val (.int p2), .val (.int p3), .val (.int p4), .val (.int cap), .val (.int (2 : Int32)), .val (.ref b31), .val (.ref b'), .val (.int (1 : Int32)), .unset]) (pc' := 225) rfl rfl ?_
                        refine gLoadA X45 hx (hb hby at_225) (pc' := 227) rfl rfl rfl ?_
                        refine gLoadI X45 hx (hb hby at_227) (pc' := 229) rfl rfl ?_
                        refine gBaload X45 hx hZ e45 A1 (j := (2 : Int32)) (v := (.int ((sh p4 8)).toInt8.toInt32)) (by decide) (own_lt (by have : (2 : Int32).toInt = 2 := rfl; omega)) rfl (hb hby at_229) (pc' := 230) rfl ?_
                        refine gSipush X45 hx (v := (255 : Int32)) (hb hby at_230) (pc' := 233) rfl rfl ?_
                        refine gIand X45 hx (hb hby at_233) (pc' := 234) rfl ?_
                        refine gBipush X45 hx (v := (8 : Int32)) (hb hby at_234) (pc' := 236) rfl rfl ?_
                        refine gIshl X45 hx (hb hby at_236) (pc' := 237) rfl ?_
                        refine gLoadA X45 hx (hb hby at_237) (pc' := 239) rfl rfl rfl ?_
                        refine gLoadI X45 hx (hb hby at_239) (pc' := 241) rfl rfl ?_
                        refine gIconst X45 hx (v := (1 : Int32)) (hb hby at_241) (pc' := 242) rfl rfl ?_
                        refine gIadd X45 hx (hb hby at_242) (pc' := 243) rfl ?_
                        show Goes p e below _ T45 (mkF m 243 #[.val (.int p0), .val (.int p1), .val (.int p2), .val (.int p3), .val (.int p4), .val (.int cap), .val (.int (2 : Int32)), .val (.ref b31), .val (.ref b'), .val (.int (1 : Int32)), .unset] [(.int (3 : Int32)), (.ref b'), (.int ((((sh p4 8)).toInt8.toInt32 &&& (255 : Int32)) <<< ((8 : Int32) &&& 31)))])
                        refine gBaload X45 hx hZ e45 A1 (j := (3 : Int32)) (v := (.int (p4).toInt8.toInt32)) (by decide) (own_lt (by have : (3 : Int32).toInt = 3 := rfl; omega)) rfl (hb hby at_243) (pc' := 244) rfl ?_
                        refine gSipush X45 hx (v := (255 : Int32)) (hb hby at_244) (pc' := 247) rfl rfl ?_
                        refine gIand X45 hx (hb hby at_247) (pc' := 248) rfl ?_
                        refine gIor X45 hx (hb hby at_248) (pc' := 249) rfl ?_
                        refine gStoreI X45 hx (hb hby at_249) (l' := #[.val (.int p0), .val (.int p1), .val (.int p2), .val (.int p3), .val (.int p4), .val (.int cap), .val (.int (2 : Int32)), .val (.ref b31), .val (.ref b'), .val (.int (1 : Int32)), .val (.int (((((sh p4 8)).toInt8.toInt32 &&& (255 : Int32)) <<< ((8 : Int32) &&& 31)) ||| ((p4).toInt8.toInt32 &&& (255 : Int32))))]) (pc' := 251) rfl rfl ?_
                        refine gLoadI X45 hx (hb hby at_251) (pc' := 253) rfl rfl ?_
                        refine gIfEqT X45 hx (hb hby at_253) (pc' := 270) (by decide) (by decide) (pn := 256) rfl (fun (c253 : (1 : Int) = (0 : Int)) => ?_) (fun (c253 : ¬ (1 : Int) = (0 : Int)) => ?_)
                        · exact absurd c253 (by decide)
                        · refine gLoadI X45 hx (hb hby at_256) (pc' := 258) rfl rfl ?_
                          refine gLoadI X45 hx (hb hby at_258) (pc' := 260) rfl rfl ?_
                          refine gLdc X45 hx hZ hown (hw _ (List.mem_of_getElem? (i := 63) rfl)) (hb hby at_260) (pc' := 262) rfl ?_
                          refine gIand X45 hx (hb hby at_262) (pc' := 263) rfl ?_
                          refine gIcmpNe X45 hx (hb hby at_263) (pc' := 270) (by decide) (by decide) (pn := 266) rfl (fun (c263 : ¬ (((((sh p4 8)).toInt8.toInt32 &&& (255 : Int32)) <<< ((8 : Int32) &&& 31)) ||| ((p4).toInt8.toInt32 &&& (255 : Int32))) = (p4 &&& (65535 : Int32))) => ?_) (fun (c263 : (((((sh p4 8)).toInt8.toInt32 &&& (255 : Int32)) <<< ((8 : Int32) &&& 31)) ||| ((p4).toInt8.toInt32 &&& (255 : Int32))) = (p4 &&& (65535 : Int32))) => ?_)
                          · exact absurd (own_rd p4) c263
                          · refine gIconst X45 hx (v := (1 : Int32)) (hb hby at_266) (pc' := 267) rfl rfl ?_
                            refine gGoto X45 hx (hb hby at_267) (pc' := 271) (by decide) (by decide) ?_
                            exact gRetN X45 hx hlk hret (by simp) (hb hby at_271) (w := (1 : Int32)) rfl (by decide) (by decide) (⟨rfl, N35⟩)
      · exact absurd c73 (by omega)
    · exact absurd c63 (by decide)
  · refine gStoreI X0 hx (hb hby at_13) (l' := #[.val (.int p0), .val (.int p1), .val (.int p2), .val (.int p3), .val (.int p4), .val (.int cap), .val (.int (3 : Int32)), .unset, .unset, .unset, .unset]) (pc' := 15) rfl rfl ?_
    refine gNew X0 hx hZ hown (hw _ (List.mem_of_getElem? (i := 1) rfl)) (hw _ (List.mem_of_getElem? (i := 2) rfl)) (hw _ (List.mem_of_getElem? (i := 3) rfl)) e0 (hb hby at_15) (pc' := 18) rfl (by decide) (by decide) (fun T46 h46 b46 X46 e46 g46 E46 A46 D46 => ?_)
    have sz_b46 : h0.size ≤ b46 := Nat.le_trans (Nat.le_refl _) (Nat.le_of_eq g46.symm)
    have zs46 : h0.size ≤ h46.size := Nat.le_trans (Nat.le_refl _) E46.1
    have F46_octets : Fld Z h46 b46 "com/example/anteroom/anteroom/PayloadWriter" "octets" "[B" .null := D46 (Or.inl (hw _ (List.mem_of_getElem? (i := 12) rfl))) (ty := (.array .byte)) (by decide)
    have F46_length : Fld Z h46 b46 "com/example/anteroom/anteroom/PayloadWriter" "length" "I" (.int (0 : Int32)) := D46 (Or.inl (hw _ (List.mem_of_getElem? (i := 28) rfl))) (ty := .int) (by decide)
    refine gDup X46 hx (hb hby at_18) (pc' := 19) rfl rfl ?_
    refine gLoadI X46 hx (hb hby at_19) (pc' := 21) rfl rfl ?_
    refine gCallI X46 hx hZ (y := (⟨"com/example/anteroom/anteroom/PayloadWriter", "<init>", "(I)V"⟩ : MethodName)) rfl hown e46 (by rw [hml]; rfl) (hw _ (List.mem_of_getElem? (i := 4) rfl)) (hw _ (List.mem_of_getElem? (i := 5) rfl)) (hw _ (List.mem_of_getElem? (i := 3) rfl)) (hw _ (List.mem_of_getElem? (i := 6) rfl)) (by decide) (argsL := [(.int cap)]) (st := [(.ref b46)]) (c_init l Z a0 hw b46 cap h0.size h46 sz_b46 zs46 hcap.1 hcap.2 A46 F46_octets F46_length) (lenOf pd_4 rfl) (hb hby at_21) (pc' := 24) rfl rfl (by decide) (W := 1) (Nat.le_of_eq rfl) (by decide) (by decide) (by decide) ?_
    intro T47 v47 L47 X47 hQ47
    obtain ⟨rfl, Nq47, hB47⟩ := hQ47
    have N47 := Fr.app (Fr.nil h0.size) Nq47
    have hb47 := hB47
    obtain ⟨_, _, _, _, _, _, _, _, E47, -⟩ := hb47
    refine gStoreA X47 hx (hb hby at_24) (l' := #[.val (.int p0), .val (.int p1), .val (.int p2), .val (.int p3), .val (.int p4), .val (.int cap), .val (.int (3 : Int32)), .val (.ref b46), .unset, .unset, .unset]) (pc' := 26) rfl rfl rfl ?_
    refine gLoadA X47 hx (hb hby at_26) (pc' := 28) rfl rfl rfl ?_
    refine gLoadIN X47 hx (hb hby at_28) (pc' := 29) rfl rfl ?_
    refine gCallV X47 hx hZ (y := (⟨"com/example/anteroom/anteroom/PayloadWriter", "writeInt32", "(I)Lcom/example/anteroom/anteroom/PayloadWriter;"⟩ : MethodName)) hown rfl (by rw [hml]; rfl) E47 (hw _ (List.mem_of_getElem? (i := 13) rfl)) (hw _ (List.mem_of_getElem? (i := 14) rfl)) (hw _ (List.mem_of_getElem? (i := 16) rfl)) (hw _ (List.mem_of_getElem? (i := 15) rfl)) (hw _ (List.mem_of_getElem? (i := 3) rfl)) (hw _ (List.mem_of_getElem? (i := 17) rfl)) (by decide) (argsL := [(.int p1)]) (st := []) (c_w32 l Z a0 hw b46 p1 [] h0.size T47.heap hB47 (by simp)) (lenOf pd_3 rfl) (hb hby at_29) (pc' := 32) rfl rfl (by decide) (W := 0) (Nat.le_of_eq rfl) (by decide) (by decide) (by decide) ?_
    intro T48 v48 L48 X48 hQ48
    obtain ⟨rfl, Nq48, hB48⟩ := hQ48
    have N48 := Fr.app N47 Nq48
    have hb48 := hB48
    obtain ⟨_, _, _, _, _, _, _, _, E48, -⟩ := hb48
    refine gPop X48 hx (hb hby at_32) (pc' := 33) rfl rfl ?_
    refine gLoadA X48 hx (hb hby at_33) (pc' := 35) rfl rfl rfl ?_
    refine gLoadIN X48 hx (hb hby at_35) (pc' := 36) rfl rfl ?_
    refine gCallV X48 hx hZ (y := (⟨"com/example/anteroom/anteroom/PayloadWriter", "writeInt32", "(I)Lcom/example/anteroom/anteroom/PayloadWriter;"⟩ : MethodName)) hown rfl (by rw [hml]; rfl) E48 (hw _ (List.mem_of_getElem? (i := 13) rfl)) (hw _ (List.mem_of_getElem? (i := 14) rfl)) (hw _ (List.mem_of_getElem? (i := 16) rfl)) (hw _ (List.mem_of_getElem? (i := 15) rfl)) (hw _ (List.mem_of_getElem? (i := 3) rfl)) (hw _ (List.mem_of_getElem? (i := 17) rfl)) (by decide) (argsL := [(.int p2)]) (st := []) (c_w32 l Z a0 hw b46 p2 [byteOf (sh (sh p1 16) 8), byteOf (sh p1 16), byteOf (sh p1 8), byteOf p1] h0.size T48.heap hB48 (by simp)) (lenOf pd_3 rfl) (hb hby at_36) (pc' := 39) rfl rfl (by decide) (W := 0) (Nat.le_of_eq rfl) (by decide) (by decide) (by decide) ?_
    intro T49 v49 L49 X49 hQ49
    obtain ⟨rfl, Nq49, hB49⟩ := hQ49
    have N49 := Fr.app N48 Nq49
    have hb49 := hB49
    obtain ⟨_, _, _, _, _, _, _, _, E49, -⟩ := hb49
    refine gPop X49 hx (hb hby at_39) (pc' := 40) rfl rfl ?_
    refine gLoadA X49 hx (hb hby at_40) (pc' := 42) rfl rfl rfl ?_
    refine gLoadI X49 hx (hb hby at_42) (pc' := 44) rfl rfl ?_
    refine gLoadI X49 hx (hb hby at_44) (pc' := 46) rfl rfl ?_
    refine gCallV X49 hx hZ (y := (⟨"com/example/anteroom/anteroom/PayloadWriter", "setInt", "(II)V"⟩ : MethodName)) hown rfl (by rw [hml]; rfl) E49 (hw _ (List.mem_of_getElem? (i := 44) rfl)) (hw _ (List.mem_of_getElem? (i := 45) rfl)) (hw _ (List.mem_of_getElem? (i := 47) rfl)) (hw _ (List.mem_of_getElem? (i := 46) rfl)) (hw _ (List.mem_of_getElem? (i := 3) rfl)) (hw _ (List.mem_of_getElem? (i := 48) rfl)) (by decide) (argsL := [(.int (3 : Int32)), (.int p4)]) (st := []) (c_set l Z a0 hw b46 (3) p4 3 [byteOf (sh (sh p1 16) 8), byteOf (sh p1 16), byteOf (sh p1 8), byteOf p1, byteOf (sh (sh p2 16) 8), byteOf (sh p2 16), byteOf (sh p2 8), byteOf p2] h0.size T49.heap hB49 rfl (by simp) (by simp)) (lenOf pd_6 rfl) (hb hby at_46) (pc' := 49) rfl rfl (by decide) (W := 0) (Nat.le_of_eq rfl) (by decide) (by decide) (by decide) ?_
    intro T50 v50 L50 X50 hQ50
    obtain ⟨rfl, Nq50, hB50⟩ := hQ50
    have N50 := Fr.app N49 Nq50
    replace hB50 : Buf Z T50.heap h0.size b46 [byteOf (sh (sh p1 16) 8), byteOf (sh p1 16), byteOf (sh p1 8), byteOf (sh p4 8), byteOf p4, byteOf (sh p2 16), byteOf (sh p2 8), byteOf p2] 0 := hB50
    obtain ⟨b', ck', n', k', r', -, -, -, E1, F1, F2, A1, hk', hn', -, -⟩ := hB50
    simp only [List.length_cons, List.length_nil] at hk' hn'
    obtain rfl : k' = 8 := Int32.toInt_inj.mp hk'
    refine gLoadA X50 hx (hb hby at_49) (pc' := 51) rfl rfl rfl ?_
    refine gCallVJ X50 hx hZ (y := (⟨"com/example/anteroom/anteroom/PayloadWriter", "array", "()[B"⟩ : MethodName)) hown rfl (by rw [hml]; rfl) E1 (hw _ (List.mem_of_getElem? (i := 49) rfl)) (hw _ (List.mem_of_getElem? (i := 50) rfl)) (hw _ (List.mem_of_getElem? (i := 52) rfl)) (hw _ (List.mem_of_getElem? (i := 51) rfl)) (hw _ (List.mem_of_getElem? (i := 3) rfl)) (hw _ (List.mem_of_getElem? (i := 53) rfl)) (by decide) (argsL := []) (st := []) (c_arr l Z a0 hw b46 b' 0 _ F1) (lenOf pd_2 rfl) (hb hby at_51) (pc' := 54) rfl rfl rfl rfl (by decide) (W := 0) (Nat.le_of_eq rfl) (by decide) (by decide) (by decide) ?_
    intro T51 X51 e51
    refine gStoreA X51 hx (hb hby at_54) (l' := #[.val (.int p0), .val (.int p1), .val (.int p2), .val (.int p3), .val (.int p4), .val (.int cap), .val (.int (3 : Int32)), .val (.ref b46), .val (.ref b'), .unset, .unset]) (pc' := 56) rfl rfl rfl ?_
    refine gLoadA X51 hx (hb hby at_56) (pc' := 58) rfl rfl rfl ?_
    refine gCallVJ X51 hx hZ (y := (⟨"com/example/anteroom/anteroom/PayloadWriter", "length", "()I"⟩ : MethodName)) hown e51 (by rw [hml]; rfl) E1 (hw _ (List.mem_of_getElem? (i := 54) rfl)) (hw _ (List.mem_of_getElem? (i := 55) rfl)) (hw _ (List.mem_of_getElem? (i := 57) rfl)) (hw _ (List.mem_of_getElem? (i := 56) rfl)) (hw _ (List.mem_of_getElem? (i := 3) rfl)) (hw _ (List.mem_of_getElem? (i := 58) rfl)) (by decide) (argsL := []) (st := []) (c_len l Z a0 hw b46 0 8 _ F2) (lenOf pd_0 rfl) (hb hby at_58) (pc' := 61) rfl rfl rfl rfl (by decide) (W := 0) (Nat.le_of_eq rfl) (by decide) (by decide) (by decide) ?_
    intro T52 X52 e52
    refine gBipush X52 hx (v := (8 : Int32)) (hb hby at_61) (pc' := 63) rfl rfl ?_
    refine gIcmpEqT X52 hx (hb hby at_63) (pc' := 68) (by decide) (by decide) (pn := 66) rfl (fun (c63 : (8 : Int) = (8 : Int)) => ?_) (fun (c63 : ¬ (8 : Int) = (8 : Int)) => ?_)
    · refine gLoadA X52 hx (hb hby at_68) (pc' := 70) rfl rfl rfl ?_
      refine gArrLen X52 hx hZ e52 A1 (hb hby at_70) (pc' := 71) rfl ?_
      refine gBipush X52 hx (v := (8 : Int32)) (hb hby at_71) (pc' := 73) rfl rfl ?_
      refine gIcmpGe X52 hx (hb hby at_73) (pc' := 78) (by decide) (by decide) (pn := 76) rfl (fun (c73 : (8 : Int) ≤ n'.toInt) => ?_) (fun (c73 : n'.toInt < (8 : Int)) => ?_)
      · refine gLoadA X52 hx (hb hby at_78) (pc' := 80) rfl rfl rfl ?_
        refine gIconst X52 hx (v := (0 : Int32)) (hb hby at_80) (pc' := 81) rfl rfl ?_
        refine gBaload X52 hx hZ e52 A1 (j := (0 : Int32)) (v := (.int ((sh (sh p1 16) 8)).toInt8.toInt32)) (by decide) (own_lt (by have : (0 : Int32).toInt = 0 := rfl; omega)) rfl (hb hby at_81) (pc' := 82) rfl ?_
        refine gIconst X52 hx (v := (0 : Int32)) (hb hby at_82) (pc' := 83) rfl rfl ?_
        refine gLoadIN X52 hx (hb hby at_83) (pc' := 84) rfl rfl ?_
        refine gLoadIN X52 hx (hb hby at_84) (pc' := 85) rfl rfl ?_
        refine gLoadI X52 hx (hb hby at_85) (pc' := 87) rfl rfl ?_
        refine gLoadI X52 hx (hb hby at_87) (pc' := 89) rfl rfl ?_
        refine gCallSJ X52 hx hZ (y := (⟨"com/example/anteroom/anteroom/PayloadWriterSetIntPinLaw", "expect", "(IIIII)B"⟩ : MethodName)) hown e52 (by rw [hml]; rfl) (hw _ (List.mem_of_getElem? (i := 59) rfl)) (hw _ (List.mem_of_getElem? (i := 60) rfl)) (hw _ (List.mem_of_getElem? (i := 61) rfl)) (hw _ (List.mem_of_getElem? (i := 62) rfl)) (by decide) (argsL := [(.int (0 : Int32)), (.int p1), (.int p2), (.int (3 : Int32)), (.int p4)]) (st := [(.int ((sh (sh p1 16) 8)).toInt8.toInt32)]) (c_ex l Z a0 hw (0 : Int32) p1 p2 (3 : Int32) p4 _) (lenOf pd_7 rfl) (hb hby at_89) (pc' := 92) rfl rfl rfl rfl (by decide) (W := 1) (Nat.le_of_eq rfl) (by decide) (by decide) (by decide) ?_
        intro T53 X53 e53
        refine gIcmpNe X53 hx (hb hby at_92) (pc' := 222) (by decide) (by decide) (pn := 95) rfl (fun (c92 : ¬ ((sh (sh p1 16) 8)).toInt8.toInt32 = (ex (0 : Int32) p1 p2 (3 : Int32) p4)) => ?_) (fun (c92 : ((sh (sh p1 16) 8)).toInt8.toInt32 = (ex (0 : Int32) p1 p2 (3 : Int32) p4)) => ?_)
        · exact absurd (show _ = ex 0 p1 p2 3 p4 from own_b0 _) c92
        · refine gLoadA X53 hx (hb hby at_95) (pc' := 97) rfl rfl rfl ?_
          refine gIconst X53 hx (v := (1 : Int32)) (hb hby at_97) (pc' := 98) rfl rfl ?_
          refine gBaload X53 hx hZ e53 A1 (j := (1 : Int32)) (v := (.int ((sh p1 16)).toInt8.toInt32)) (by decide) (own_lt (by have : (1 : Int32).toInt = 1 := rfl; omega)) rfl (hb hby at_98) (pc' := 99) rfl ?_
          refine gIconst X53 hx (v := (1 : Int32)) (hb hby at_99) (pc' := 100) rfl rfl ?_
          refine gLoadIN X53 hx (hb hby at_100) (pc' := 101) rfl rfl ?_
          refine gLoadIN X53 hx (hb hby at_101) (pc' := 102) rfl rfl ?_
          refine gLoadI X53 hx (hb hby at_102) (pc' := 104) rfl rfl ?_
          refine gLoadI X53 hx (hb hby at_104) (pc' := 106) rfl rfl ?_
          refine gCallSJ X53 hx hZ (y := (⟨"com/example/anteroom/anteroom/PayloadWriterSetIntPinLaw", "expect", "(IIIII)B"⟩ : MethodName)) hown e53 (by rw [hml]; rfl) (hw _ (List.mem_of_getElem? (i := 59) rfl)) (hw _ (List.mem_of_getElem? (i := 60) rfl)) (hw _ (List.mem_of_getElem? (i := 61) rfl)) (hw _ (List.mem_of_getElem? (i := 62) rfl)) (by decide) (argsL := [(.int (1 : Int32)), (.int p1), (.int p2), (.int (3 : Int32)), (.int p4)]) (st := [(.int ((sh p1 16)).toInt8.toInt32)]) (c_ex l Z a0 hw (1 : Int32) p1 p2 (3 : Int32) p4 _) (lenOf pd_7 rfl) (hb hby at_106) (pc' := 109) rfl rfl rfl rfl (by decide) (W := 1) (Nat.le_of_eq rfl) (by decide) (by decide) (by decide) ?_
          intro T54 X54 e54
          refine gIcmpNe X54 hx (hb hby at_109) (pc' := 222) (by decide) (by decide) (pn := 112) rfl (fun (c109 : ¬ ((sh p1 16)).toInt8.toInt32 = (ex (1 : Int32) p1 p2 (3 : Int32) p4)) => ?_) (fun (c109 : ((sh p1 16)).toInt8.toInt32 = (ex (1 : Int32) p1 p2 (3 : Int32) p4)) => ?_)
          · exact absurd (show _ = ex 1 p1 p2 3 p4 from rfl) c109
          · refine gLoadA X54 hx (hb hby at_112) (pc' := 114) rfl rfl rfl ?_
            refine gIconst X54 hx (v := (2 : Int32)) (hb hby at_114) (pc' := 115) rfl rfl ?_
            refine gBaload X54 hx hZ e54 A1 (j := (2 : Int32)) (v := (.int ((sh p1 8)).toInt8.toInt32)) (by decide) (own_lt (by have : (2 : Int32).toInt = 2 := rfl; omega)) rfl (hb hby at_115) (pc' := 116) rfl ?_
            refine gIconst X54 hx (v := (2 : Int32)) (hb hby at_116) (pc' := 117) rfl rfl ?_
            refine gLoadIN X54 hx (hb hby at_117) (pc' := 118) rfl rfl ?_
            refine gLoadIN X54 hx (hb hby at_118) (pc' := 119) rfl rfl ?_
            refine gLoadI X54 hx (hb hby at_119) (pc' := 121) rfl rfl ?_
            refine gLoadI X54 hx (hb hby at_121) (pc' := 123) rfl rfl ?_
            refine gCallSJ X54 hx hZ (y := (⟨"com/example/anteroom/anteroom/PayloadWriterSetIntPinLaw", "expect", "(IIIII)B"⟩ : MethodName)) hown e54 (by rw [hml]; rfl) (hw _ (List.mem_of_getElem? (i := 59) rfl)) (hw _ (List.mem_of_getElem? (i := 60) rfl)) (hw _ (List.mem_of_getElem? (i := 61) rfl)) (hw _ (List.mem_of_getElem? (i := 62) rfl)) (by decide) (argsL := [(.int (2 : Int32)), (.int p1), (.int p2), (.int (3 : Int32)), (.int p4)]) (st := [(.int ((sh p1 8)).toInt8.toInt32)]) (c_ex l Z a0 hw (2 : Int32) p1 p2 (3 : Int32) p4 _) (lenOf pd_7 rfl) (hb hby at_123) (pc' := 126) rfl rfl rfl rfl (by decide) (W := 1) (Nat.le_of_eq rfl) (by decide) (by decide) (by decide) ?_
            intro T55 X55 e55
            refine gIcmpNe X55 hx (hb hby at_126) (pc' := 222) (by decide) (by decide) (pn := 129) rfl (fun (c126 : ¬ ((sh p1 8)).toInt8.toInt32 = (ex (2 : Int32) p1 p2 (3 : Int32) p4)) => ?_) (fun (c126 : ((sh p1 8)).toInt8.toInt32 = (ex (2 : Int32) p1 p2 (3 : Int32) p4)) => ?_)
            · exact absurd (show _ = ex 2 p1 p2 3 p4 from rfl) c126
            · refine gLoadA X55 hx (hb hby at_129) (pc' := 131) rfl rfl rfl ?_
              refine gIconst X55 hx (v := (3 : Int32)) (hb hby at_131) (pc' := 132) rfl rfl ?_
              refine gBaload X55 hx hZ e55 A1 (j := (3 : Int32)) (v := (.int ((sh p4 8)).toInt8.toInt32)) (by decide) (own_lt (by have : (3 : Int32).toInt = 3 := rfl; omega)) rfl (hb hby at_132) (pc' := 133) rfl ?_
              refine gIconst X55 hx (v := (3 : Int32)) (hb hby at_133) (pc' := 134) rfl rfl ?_
              refine gLoadIN X55 hx (hb hby at_134) (pc' := 135) rfl rfl ?_
              refine gLoadIN X55 hx (hb hby at_135) (pc' := 136) rfl rfl ?_
              refine gLoadI X55 hx (hb hby at_136) (pc' := 138) rfl rfl ?_
              refine gLoadI X55 hx (hb hby at_138) (pc' := 140) rfl rfl ?_
              refine gCallSJ X55 hx hZ (y := (⟨"com/example/anteroom/anteroom/PayloadWriterSetIntPinLaw", "expect", "(IIIII)B"⟩ : MethodName)) hown e55 (by rw [hml]; rfl) (hw _ (List.mem_of_getElem? (i := 59) rfl)) (hw _ (List.mem_of_getElem? (i := 60) rfl)) (hw _ (List.mem_of_getElem? (i := 61) rfl)) (hw _ (List.mem_of_getElem? (i := 62) rfl)) (by decide) (argsL := [(.int (3 : Int32)), (.int p1), (.int p2), (.int (3 : Int32)), (.int p4)]) (st := [(.int ((sh p4 8)).toInt8.toInt32)]) (c_ex l Z a0 hw (3 : Int32) p1 p2 (3 : Int32) p4 _) (lenOf pd_7 rfl) (hb hby at_140) (pc' := 143) rfl rfl rfl rfl (by decide) (W := 1) (Nat.le_of_eq rfl) (by decide) (by decide) (by decide) ?_
              intro T56 X56 e56
              refine gIcmpNe X56 hx (hb hby at_143) (pc' := 222) (by decide) (by decide) (pn := 146) rfl (fun (c143 : ¬ ((sh p4 8)).toInt8.toInt32 = (ex (3 : Int32) p1 p2 (3 : Int32) p4)) => ?_) (fun (c143 : ((sh p4 8)).toInt8.toInt32 = (ex (3 : Int32) p1 p2 (3 : Int32) p4)) => ?_)
              · exact absurd (show _ = ex 3 p1 p2 3 p4 from rfl) c143
              · refine gLoadA X56 hx (hb hby at_146) (pc' := 148) rfl rfl rfl ?_
                refine gIconst X56 hx (v := (4 : Int32)) (hb hby at_148) (pc' := 149) rfl rfl ?_
                refine gBaload X56 hx hZ e56 A1 (j := (4 : Int32)) (v := (.int (p4).toInt8.toInt32)) (by decide) (own_lt (by have : (4 : Int32).toInt = 4 := rfl; omega)) rfl (hb hby at_149) (pc' := 150) rfl ?_
                refine gIconst X56 hx (v := (4 : Int32)) (hb hby at_150) (pc' := 151) rfl rfl ?_
                refine gLoadIN X56 hx (hb hby at_151) (pc' := 152) rfl rfl ?_
                refine gLoadIN X56 hx (hb hby at_152) (pc' := 153) rfl rfl ?_
                refine gLoadI X56 hx (hb hby at_153) (pc' := 155) rfl rfl ?_
                refine gLoadI X56 hx (hb hby at_155) (pc' := 157) rfl rfl ?_
                refine gCallSJ X56 hx hZ (y := (⟨"com/example/anteroom/anteroom/PayloadWriterSetIntPinLaw", "expect", "(IIIII)B"⟩ : MethodName)) hown e56 (by rw [hml]; rfl) (hw _ (List.mem_of_getElem? (i := 59) rfl)) (hw _ (List.mem_of_getElem? (i := 60) rfl)) (hw _ (List.mem_of_getElem? (i := 61) rfl)) (hw _ (List.mem_of_getElem? (i := 62) rfl)) (by decide) (argsL := [(.int (4 : Int32)), (.int p1), (.int p2), (.int (3 : Int32)), (.int p4)]) (st := [(.int (p4).toInt8.toInt32)]) (c_ex l Z a0 hw (4 : Int32) p1 p2 (3 : Int32) p4 _) (lenOf pd_7 rfl) (hb hby at_157) (pc' := 160) rfl rfl rfl rfl (by decide) (W := 1) (Nat.le_of_eq rfl) (by decide) (by decide) (by decide) ?_
                intro T57 X57 e57
                refine gIcmpNe X57 hx (hb hby at_160) (pc' := 222) (by decide) (by decide) (pn := 163) rfl (fun (c160 : ¬ (p4).toInt8.toInt32 = (ex (4 : Int32) p1 p2 (3 : Int32) p4)) => ?_) (fun (c160 : (p4).toInt8.toInt32 = (ex (4 : Int32) p1 p2 (3 : Int32) p4)) => ?_)
                · exact absurd (show _ = ex 4 p1 p2 3 p4 from rfl) c160
                · refine gLoadA X57 hx (hb hby at_163) (pc' := 165) rfl rfl rfl ?_
                  refine gIconst X57 hx (v := (5 : Int32)) (hb hby at_165) (pc' := 166) rfl rfl ?_
                  refine gBaload X57 hx hZ e57 A1 (j := (5 : Int32)) (v := (.int ((sh p2 16)).toInt8.toInt32)) (by decide) (own_lt (by have : (5 : Int32).toInt = 5 := rfl; omega)) rfl (hb hby at_166) (pc' := 167) rfl ?_
                  refine gIconst X57 hx (v := (5 : Int32)) (hb hby at_167) (pc' := 168) rfl rfl ?_
                  refine gLoadIN X57 hx (hb hby at_168) (pc' := 169) rfl rfl ?_
                  refine gLoadIN X57 hx (hb hby at_169) (pc' := 170) rfl rfl ?_
                  refine gLoadI X57 hx (hb hby at_170) (pc' := 172) rfl rfl ?_
                  refine gLoadI X57 hx (hb hby at_172) (pc' := 174) rfl rfl ?_
                  refine gCallSJ X57 hx hZ (y := (⟨"com/example/anteroom/anteroom/PayloadWriterSetIntPinLaw", "expect", "(IIIII)B"⟩ : MethodName)) hown e57 (by rw [hml]; rfl) (hw _ (List.mem_of_getElem? (i := 59) rfl)) (hw _ (List.mem_of_getElem? (i := 60) rfl)) (hw _ (List.mem_of_getElem? (i := 61) rfl)) (hw _ (List.mem_of_getElem? (i := 62) rfl)) (by decide) (argsL := [(.int (5 : Int32)), (.int p1), (.int p2), (.int (3 : Int32)), (.int p4)]) (st := [(.int ((sh p2 16)).toInt8.toInt32)]) (c_ex l Z a0 hw (5 : Int32) p1 p2 (3 : Int32) p4 _) (lenOf pd_7 rfl) (hb hby at_174) (pc' := 177) rfl rfl rfl rfl (by decide) (W := 1) (Nat.le_of_eq rfl) (by decide) (by decide) (by decide) ?_
                  intro T58 X58 e58
                  refine gIcmpNe X58 hx (hb hby at_177) (pc' := 222) (by decide) (by decide) (pn := 180) rfl (fun (c177 : ¬ ((sh p2 16)).toInt8.toInt32 = (ex (5 : Int32) p1 p2 (3 : Int32) p4)) => ?_) (fun (c177 : ((sh p2 16)).toInt8.toInt32 = (ex (5 : Int32) p1 p2 (3 : Int32) p4)) => ?_)
                  · exact absurd (show _ = ex 5 p1 p2 3 p4 from rfl) c177
                  · refine gLoadA X58 hx (hb hby at_180) (pc' := 182) rfl rfl rfl ?_
                    refine gBipush X58 hx (v := (6 : Int32)) (hb hby at_182) (pc' := 184) rfl rfl ?_
                    refine gBaload X58 hx hZ e58 A1 (j := (6 : Int32)) (v := (.int ((sh p2 8)).toInt8.toInt32)) (by decide) (own_lt (by have : (6 : Int32).toInt = 6 := rfl; omega)) rfl (hb hby at_184) (pc' := 185) rfl ?_
                    refine gBipush X58 hx (v := (6 : Int32)) (hb hby at_185) (pc' := 187) rfl rfl ?_
                    refine gLoadIN X58 hx (hb hby at_187) (pc' := 188) rfl rfl ?_
                    refine gLoadIN X58 hx (hb hby at_188) (pc' := 189) rfl rfl ?_
                    refine gLoadI X58 hx (hb hby at_189) (pc' := 191) rfl rfl ?_
                    refine gLoadI X58 hx (hb hby at_191) (pc' := 193) rfl rfl ?_
                    refine gCallSJ X58 hx hZ (y := (⟨"com/example/anteroom/anteroom/PayloadWriterSetIntPinLaw", "expect", "(IIIII)B"⟩ : MethodName)) hown e58 (by rw [hml]; rfl) (hw _ (List.mem_of_getElem? (i := 59) rfl)) (hw _ (List.mem_of_getElem? (i := 60) rfl)) (hw _ (List.mem_of_getElem? (i := 61) rfl)) (hw _ (List.mem_of_getElem? (i := 62) rfl)) (by decide) (argsL := [(.int (6 : Int32)), (.int p1), (.int p2), (.int (3 : Int32)), (.int p4)]) (st := [(.int ((sh p2 8)).toInt8.toInt32)]) (c_ex l Z a0 hw (6 : Int32) p1 p2 (3 : Int32) p4 _) (lenOf pd_7 rfl) (hb hby at_193) (pc' := 196) rfl rfl rfl rfl (by decide) (W := 1) (Nat.le_of_eq rfl) (by decide) (by decide) (by decide) ?_
                    intro T59 X59 e59
                    refine gIcmpNe X59 hx (hb hby at_196) (pc' := 222) (by decide) (by decide) (pn := 199) rfl (fun (c196 : ¬ ((sh p2 8)).toInt8.toInt32 = (ex (6 : Int32) p1 p2 (3 : Int32) p4)) => ?_) (fun (c196 : ((sh p2 8)).toInt8.toInt32 = (ex (6 : Int32) p1 p2 (3 : Int32) p4)) => ?_)
                    · exact absurd (show _ = ex 6 p1 p2 3 p4 from rfl) c196
                    · refine gLoadA X59 hx (hb hby at_199) (pc' := 201) rfl rfl rfl ?_
                      refine gBipush X59 hx (v := (7 : Int32)) (hb hby at_201) (pc' := 203) rfl rfl ?_
                      refine gBaload X59 hx hZ e59 A1 (j := (7 : Int32)) (v := (.int (p2).toInt8.toInt32)) (by decide) (own_lt (by have : (7 : Int32).toInt = 7 := rfl; omega)) rfl (hb hby at_203) (pc' := 204) rfl ?_
                      refine gBipush X59 hx (v := (7 : Int32)) (hb hby at_204) (pc' := 206) rfl rfl ?_
                      refine gLoadIN X59 hx (hb hby at_206) (pc' := 207) rfl rfl ?_
                      refine gLoadIN X59 hx (hb hby at_207) (pc' := 208) rfl rfl ?_
                      refine gLoadI X59 hx (hb hby at_208) (pc' := 210) rfl rfl ?_
                      refine gLoadI X59 hx (hb hby at_210) (pc' := 212) rfl rfl ?_
                      refine gCallSJ X59 hx hZ (y := (⟨"com/example/anteroom/anteroom/PayloadWriterSetIntPinLaw", "expect", "(IIIII)B"⟩ : MethodName)) hown e59 (by rw [hml]; rfl) (hw _ (List.mem_of_getElem? (i := 59) rfl)) (hw _ (List.mem_of_getElem? (i := 60) rfl)) (hw _ (List.mem_of_getElem? (i := 61) rfl)) (hw _ (List.mem_of_getElem? (i := 62) rfl)) (by decide) (argsL := [(.int (7 : Int32)), (.int p1), (.int p2), (.int (3 : Int32)), (.int p4)]) (st := [(.int (p2).toInt8.toInt32)]) (c_ex l Z a0 hw (7 : Int32) p1 p2 (3 : Int32) p4 _) (lenOf pd_7 rfl) (hb hby at_212) (pc' := 215) rfl rfl rfl rfl (by decide) (W := 1) (Nat.le_of_eq rfl) (by decide) (by decide) (by decide) ?_
                      intro T60 X60 e60
                      refine gIcmpNe X60 hx (hb hby at_215) (pc' := 222) (by decide) (by decide) (pn := 218) rfl (fun (c215 : ¬ (p2).toInt8.toInt32 = (ex (7 : Int32) p1 p2 (3 : Int32) p4)) => ?_) (fun (c215 : (p2).toInt8.toInt32 = (ex (7 : Int32) p1 p2 (3 : Int32) p4)) => ?_)
                      · exact absurd (show _ = ex 7 p1 p2 3 p4 from own_b3 _) c215
                      · refine gIconst X60 hx (v := (1 : Int32)) (hb hby at_218) (pc' := 219) rfl rfl ?_
                        refine gGoto X60 hx (hb hby at_219) (pc' := 223) (by decide) (by decide) ?_
                        refine gStoreI X60 hx (hb hby at_223) (l' := #[.val (.int p0), .val (.int p1), .val (.int p2), .val (.int p3), .val (.int p4), .val (.int cap), .val (.int (3 : Int32)), .val (.ref b46), .val (.ref b'), .val (.int (1 : Int32)), .unset]) (pc' := 225) rfl rfl ?_
                        refine gLoadA X60 hx (hb hby at_225) (pc' := 227) rfl rfl rfl ?_
                        refine gLoadI X60 hx (hb hby at_227) (pc' := 229) rfl rfl ?_
                        refine gBaload X60 hx hZ e60 A1 (j := (3 : Int32)) (v := (.int ((sh p4 8)).toInt8.toInt32)) (by decide) (own_lt (by have : (3 : Int32).toInt = 3 := rfl; omega)) rfl (hb hby at_229) (pc' := 230) rfl ?_
                        refine gSipush X60 hx (v := (255 : Int32)) (hb hby at_230) (pc' := 233) rfl rfl ?_
                        refine gIand X60 hx (hb hby at_233) (pc' := 234) rfl ?_
                        refine gBipush X60 hx (v := (8 : Int32)) (hb hby at_234) (pc' := 236) rfl rfl ?_
                        refine gIshl X60 hx (hb hby at_236) (pc' := 237) rfl ?_
                        refine gLoadA X60 hx (hb hby at_237) (pc' := 239) rfl rfl rfl ?_
                        refine gLoadI X60 hx (hb hby at_239) (pc' := 241) rfl rfl ?_
                        refine gIconst X60 hx (v := (1 : Int32)) (hb hby at_241) (pc' := 242) rfl rfl ?_
                        refine gIadd X60 hx (hb hby at_242) (pc' := 243) rfl ?_
                        show Goes p e below _ T60 (mkF m 243 #[.val (.int p0), .val (.int p1), .val (.int p2), .val (.int p3), .val (.int p4), .val (.int cap), .val (.int (3 : Int32)), .val (.ref b46), .val (.ref b'), .val (.int (1 : Int32)), .unset] [(.int (4 : Int32)), (.ref b'), (.int ((((sh p4 8)).toInt8.toInt32 &&& (255 : Int32)) <<< ((8 : Int32) &&& 31)))])
                        refine gBaload X60 hx hZ e60 A1 (j := (4 : Int32)) (v := (.int (p4).toInt8.toInt32)) (by decide) (own_lt (by have : (4 : Int32).toInt = 4 := rfl; omega)) rfl (hb hby at_243) (pc' := 244) rfl ?_
                        refine gSipush X60 hx (v := (255 : Int32)) (hb hby at_244) (pc' := 247) rfl rfl ?_
                        refine gIand X60 hx (hb hby at_247) (pc' := 248) rfl ?_
                        refine gIor X60 hx (hb hby at_248) (pc' := 249) rfl ?_
                        refine gStoreI X60 hx (hb hby at_249) (l' := #[.val (.int p0), .val (.int p1), .val (.int p2), .val (.int p3), .val (.int p4), .val (.int cap), .val (.int (3 : Int32)), .val (.ref b46), .val (.ref b'), .val (.int (1 : Int32)), .val (.int (((((sh p4 8)).toInt8.toInt32 &&& (255 : Int32)) <<< ((8 : Int32) &&& 31)) ||| ((p4).toInt8.toInt32 &&& (255 : Int32))))]) (pc' := 251) rfl rfl ?_
                        refine gLoadI X60 hx (hb hby at_251) (pc' := 253) rfl rfl ?_
                        refine gIfEqT X60 hx (hb hby at_253) (pc' := 270) (by decide) (by decide) (pn := 256) rfl (fun (c253 : (1 : Int) = (0 : Int)) => ?_) (fun (c253 : ¬ (1 : Int) = (0 : Int)) => ?_)
                        · exact absurd c253 (by decide)
                        · refine gLoadI X60 hx (hb hby at_256) (pc' := 258) rfl rfl ?_
                          refine gLoadI X60 hx (hb hby at_258) (pc' := 260) rfl rfl ?_
                          refine gLdc X60 hx hZ hown (hw _ (List.mem_of_getElem? (i := 63) rfl)) (hb hby at_260) (pc' := 262) rfl ?_
                          refine gIand X60 hx (hb hby at_262) (pc' := 263) rfl ?_
                          refine gIcmpNe X60 hx (hb hby at_263) (pc' := 270) (by decide) (by decide) (pn := 266) rfl (fun (c263 : ¬ (((((sh p4 8)).toInt8.toInt32 &&& (255 : Int32)) <<< ((8 : Int32) &&& 31)) ||| ((p4).toInt8.toInt32 &&& (255 : Int32))) = (p4 &&& (65535 : Int32))) => ?_) (fun (c263 : (((((sh p4 8)).toInt8.toInt32 &&& (255 : Int32)) <<< ((8 : Int32) &&& 31)) ||| ((p4).toInt8.toInt32 &&& (255 : Int32))) = (p4 &&& (65535 : Int32))) => ?_)
                          · exact absurd (own_rd p4) c263
                          · refine gIconst X60 hx (v := (1 : Int32)) (hb hby at_266) (pc' := 267) rfl rfl ?_
                            refine gGoto X60 hx (hb hby at_267) (pc' := 271) (by decide) (by decide) ?_
                            exact gRetN X60 hx hlk hret (by simp) (hb hby at_271) (w := (1 : Int32)) rfl (by decide) (by decide) (⟨rfl, N50⟩)
      · exact absurd c73 (by omega)
    · exact absurd c63 (by decide)
  · refine gStoreI X0 hx (hb hby at_13) (l' := #[.val (.int p0), .val (.int p1), .val (.int p2), .val (.int p3), .val (.int p4), .val (.int cap), .val (.int (4 : Int32)), .unset, .unset, .unset, .unset]) (pc' := 15) rfl rfl ?_
    refine gNew X0 hx hZ hown (hw _ (List.mem_of_getElem? (i := 1) rfl)) (hw _ (List.mem_of_getElem? (i := 2) rfl)) (hw _ (List.mem_of_getElem? (i := 3) rfl)) e0 (hb hby at_15) (pc' := 18) rfl (by decide) (by decide) (fun T61 h61 b61 X61 e61 g61 E61 A61 D61 => ?_)
    have sz_b61 : h0.size ≤ b61 := Nat.le_trans (Nat.le_refl _) (Nat.le_of_eq g61.symm)
    have zs61 : h0.size ≤ h61.size := Nat.le_trans (Nat.le_refl _) E61.1
    have F61_octets : Fld Z h61 b61 "com/example/anteroom/anteroom/PayloadWriter" "octets" "[B" .null := D61 (Or.inl (hw _ (List.mem_of_getElem? (i := 12) rfl))) (ty := (.array .byte)) (by decide)
    have F61_length : Fld Z h61 b61 "com/example/anteroom/anteroom/PayloadWriter" "length" "I" (.int (0 : Int32)) := D61 (Or.inl (hw _ (List.mem_of_getElem? (i := 28) rfl))) (ty := .int) (by decide)
    refine gDup X61 hx (hb hby at_18) (pc' := 19) rfl rfl ?_
    refine gLoadI X61 hx (hb hby at_19) (pc' := 21) rfl rfl ?_
    refine gCallI X61 hx hZ (y := (⟨"com/example/anteroom/anteroom/PayloadWriter", "<init>", "(I)V"⟩ : MethodName)) rfl hown e61 (by rw [hml]; rfl) (hw _ (List.mem_of_getElem? (i := 4) rfl)) (hw _ (List.mem_of_getElem? (i := 5) rfl)) (hw _ (List.mem_of_getElem? (i := 3) rfl)) (hw _ (List.mem_of_getElem? (i := 6) rfl)) (by decide) (argsL := [(.int cap)]) (st := [(.ref b61)]) (c_init l Z a0 hw b61 cap h0.size h61 sz_b61 zs61 hcap.1 hcap.2 A61 F61_octets F61_length) (lenOf pd_4 rfl) (hb hby at_21) (pc' := 24) rfl rfl (by decide) (W := 1) (Nat.le_of_eq rfl) (by decide) (by decide) (by decide) ?_
    intro T62 v62 L62 X62 hQ62
    obtain ⟨rfl, Nq62, hB62⟩ := hQ62
    have N62 := Fr.app (Fr.nil h0.size) Nq62
    have hb62 := hB62
    obtain ⟨_, _, _, _, _, _, _, _, E62, -⟩ := hb62
    refine gStoreA X62 hx (hb hby at_24) (l' := #[.val (.int p0), .val (.int p1), .val (.int p2), .val (.int p3), .val (.int p4), .val (.int cap), .val (.int (4 : Int32)), .val (.ref b61), .unset, .unset, .unset]) (pc' := 26) rfl rfl rfl ?_
    refine gLoadA X62 hx (hb hby at_26) (pc' := 28) rfl rfl rfl ?_
    refine gLoadIN X62 hx (hb hby at_28) (pc' := 29) rfl rfl ?_
    refine gCallV X62 hx hZ (y := (⟨"com/example/anteroom/anteroom/PayloadWriter", "writeInt32", "(I)Lcom/example/anteroom/anteroom/PayloadWriter;"⟩ : MethodName)) hown rfl (by rw [hml]; rfl) E62 (hw _ (List.mem_of_getElem? (i := 13) rfl)) (hw _ (List.mem_of_getElem? (i := 14) rfl)) (hw _ (List.mem_of_getElem? (i := 16) rfl)) (hw _ (List.mem_of_getElem? (i := 15) rfl)) (hw _ (List.mem_of_getElem? (i := 3) rfl)) (hw _ (List.mem_of_getElem? (i := 17) rfl)) (by decide) (argsL := [(.int p1)]) (st := []) (c_w32 l Z a0 hw b61 p1 [] h0.size T62.heap hB62 (by simp)) (lenOf pd_3 rfl) (hb hby at_29) (pc' := 32) rfl rfl (by decide) (W := 0) (Nat.le_of_eq rfl) (by decide) (by decide) (by decide) ?_
    intro T63 v63 L63 X63 hQ63
    obtain ⟨rfl, Nq63, hB63⟩ := hQ63
    have N63 := Fr.app N62 Nq63
    have hb63 := hB63
    obtain ⟨_, _, _, _, _, _, _, _, E63, -⟩ := hb63
    refine gPop X63 hx (hb hby at_32) (pc' := 33) rfl rfl ?_
    refine gLoadA X63 hx (hb hby at_33) (pc' := 35) rfl rfl rfl ?_
    refine gLoadIN X63 hx (hb hby at_35) (pc' := 36) rfl rfl ?_
    refine gCallV X63 hx hZ (y := (⟨"com/example/anteroom/anteroom/PayloadWriter", "writeInt32", "(I)Lcom/example/anteroom/anteroom/PayloadWriter;"⟩ : MethodName)) hown rfl (by rw [hml]; rfl) E63 (hw _ (List.mem_of_getElem? (i := 13) rfl)) (hw _ (List.mem_of_getElem? (i := 14) rfl)) (hw _ (List.mem_of_getElem? (i := 16) rfl)) (hw _ (List.mem_of_getElem? (i := 15) rfl)) (hw _ (List.mem_of_getElem? (i := 3) rfl)) (hw _ (List.mem_of_getElem? (i := 17) rfl)) (by decide) (argsL := [(.int p2)]) (st := []) (c_w32 l Z a0 hw b61 p2 [byteOf (sh (sh p1 16) 8), byteOf (sh p1 16), byteOf (sh p1 8), byteOf p1] h0.size T63.heap hB63 (by simp)) (lenOf pd_3 rfl) (hb hby at_36) (pc' := 39) rfl rfl (by decide) (W := 0) (Nat.le_of_eq rfl) (by decide) (by decide) (by decide) ?_
    intro T64 v64 L64 X64 hQ64
    obtain ⟨rfl, Nq64, hB64⟩ := hQ64
    have N64 := Fr.app N63 Nq64
    have hb64 := hB64
    obtain ⟨_, _, _, _, _, _, _, _, E64, -⟩ := hb64
    refine gPop X64 hx (hb hby at_39) (pc' := 40) rfl rfl ?_
    refine gLoadA X64 hx (hb hby at_40) (pc' := 42) rfl rfl rfl ?_
    refine gLoadI X64 hx (hb hby at_42) (pc' := 44) rfl rfl ?_
    refine gLoadI X64 hx (hb hby at_44) (pc' := 46) rfl rfl ?_
    refine gCallV X64 hx hZ (y := (⟨"com/example/anteroom/anteroom/PayloadWriter", "setInt", "(II)V"⟩ : MethodName)) hown rfl (by rw [hml]; rfl) E64 (hw _ (List.mem_of_getElem? (i := 44) rfl)) (hw _ (List.mem_of_getElem? (i := 45) rfl)) (hw _ (List.mem_of_getElem? (i := 47) rfl)) (hw _ (List.mem_of_getElem? (i := 46) rfl)) (hw _ (List.mem_of_getElem? (i := 3) rfl)) (hw _ (List.mem_of_getElem? (i := 48) rfl)) (by decide) (argsL := [(.int (4 : Int32)), (.int p4)]) (st := []) (c_set l Z a0 hw b61 (4) p4 4 [byteOf (sh (sh p1 16) 8), byteOf (sh p1 16), byteOf (sh p1 8), byteOf p1, byteOf (sh (sh p2 16) 8), byteOf (sh p2 16), byteOf (sh p2 8), byteOf p2] h0.size T64.heap hB64 rfl (by simp) (by simp)) (lenOf pd_6 rfl) (hb hby at_46) (pc' := 49) rfl rfl (by decide) (W := 0) (Nat.le_of_eq rfl) (by decide) (by decide) (by decide) ?_
    intro T65 v65 L65 X65 hQ65
    obtain ⟨rfl, Nq65, hB65⟩ := hQ65
    have N65 := Fr.app N64 Nq65
    replace hB65 : Buf Z T65.heap h0.size b61 [byteOf (sh (sh p1 16) 8), byteOf (sh p1 16), byteOf (sh p1 8), byteOf p1, byteOf (sh p4 8), byteOf p4, byteOf (sh p2 8), byteOf p2] 0 := hB65
    obtain ⟨b', ck', n', k', r', -, -, -, E1, F1, F2, A1, hk', hn', -, -⟩ := hB65
    simp only [List.length_cons, List.length_nil] at hk' hn'
    obtain rfl : k' = 8 := Int32.toInt_inj.mp hk'
    refine gLoadA X65 hx (hb hby at_49) (pc' := 51) rfl rfl rfl ?_
    refine gCallVJ X65 hx hZ (y := (⟨"com/example/anteroom/anteroom/PayloadWriter", "array", "()[B"⟩ : MethodName)) hown rfl (by rw [hml]; rfl) E1 (hw _ (List.mem_of_getElem? (i := 49) rfl)) (hw _ (List.mem_of_getElem? (i := 50) rfl)) (hw _ (List.mem_of_getElem? (i := 52) rfl)) (hw _ (List.mem_of_getElem? (i := 51) rfl)) (hw _ (List.mem_of_getElem? (i := 3) rfl)) (hw _ (List.mem_of_getElem? (i := 53) rfl)) (by decide) (argsL := []) (st := []) (c_arr l Z a0 hw b61 b' 0 _ F1) (lenOf pd_2 rfl) (hb hby at_51) (pc' := 54) rfl rfl rfl rfl (by decide) (W := 0) (Nat.le_of_eq rfl) (by decide) (by decide) (by decide) ?_
    intro T66 X66 e66
    refine gStoreA X66 hx (hb hby at_54) (l' := #[.val (.int p0), .val (.int p1), .val (.int p2), .val (.int p3), .val (.int p4), .val (.int cap), .val (.int (4 : Int32)), .val (.ref b61), .val (.ref b'), .unset, .unset]) (pc' := 56) rfl rfl rfl ?_
    refine gLoadA X66 hx (hb hby at_56) (pc' := 58) rfl rfl rfl ?_
    refine gCallVJ X66 hx hZ (y := (⟨"com/example/anteroom/anteroom/PayloadWriter", "length", "()I"⟩ : MethodName)) hown e66 (by rw [hml]; rfl) E1 (hw _ (List.mem_of_getElem? (i := 54) rfl)) (hw _ (List.mem_of_getElem? (i := 55) rfl)) (hw _ (List.mem_of_getElem? (i := 57) rfl)) (hw _ (List.mem_of_getElem? (i := 56) rfl)) (hw _ (List.mem_of_getElem? (i := 3) rfl)) (hw _ (List.mem_of_getElem? (i := 58) rfl)) (by decide) (argsL := []) (st := []) (c_len l Z a0 hw b61 0 8 _ F2) (lenOf pd_0 rfl) (hb hby at_58) (pc' := 61) rfl rfl rfl rfl (by decide) (W := 0) (Nat.le_of_eq rfl) (by decide) (by decide) (by decide) ?_
    intro T67 X67 e67
    refine gBipush X67 hx (v := (8 : Int32)) (hb hby at_61) (pc' := 63) rfl rfl ?_
    refine gIcmpEqT X67 hx (hb hby at_63) (pc' := 68) (by decide) (by decide) (pn := 66) rfl (fun (c63 : (8 : Int) = (8 : Int)) => ?_) (fun (c63 : ¬ (8 : Int) = (8 : Int)) => ?_)
    · refine gLoadA X67 hx (hb hby at_68) (pc' := 70) rfl rfl rfl ?_
      refine gArrLen X67 hx hZ e67 A1 (hb hby at_70) (pc' := 71) rfl ?_
      refine gBipush X67 hx (v := (8 : Int32)) (hb hby at_71) (pc' := 73) rfl rfl ?_
      refine gIcmpGe X67 hx (hb hby at_73) (pc' := 78) (by decide) (by decide) (pn := 76) rfl (fun (c73 : (8 : Int) ≤ n'.toInt) => ?_) (fun (c73 : n'.toInt < (8 : Int)) => ?_)
      · refine gLoadA X67 hx (hb hby at_78) (pc' := 80) rfl rfl rfl ?_
        refine gIconst X67 hx (v := (0 : Int32)) (hb hby at_80) (pc' := 81) rfl rfl ?_
        refine gBaload X67 hx hZ e67 A1 (j := (0 : Int32)) (v := (.int ((sh (sh p1 16) 8)).toInt8.toInt32)) (by decide) (own_lt (by have : (0 : Int32).toInt = 0 := rfl; omega)) rfl (hb hby at_81) (pc' := 82) rfl ?_
        refine gIconst X67 hx (v := (0 : Int32)) (hb hby at_82) (pc' := 83) rfl rfl ?_
        refine gLoadIN X67 hx (hb hby at_83) (pc' := 84) rfl rfl ?_
        refine gLoadIN X67 hx (hb hby at_84) (pc' := 85) rfl rfl ?_
        refine gLoadI X67 hx (hb hby at_85) (pc' := 87) rfl rfl ?_
        refine gLoadI X67 hx (hb hby at_87) (pc' := 89) rfl rfl ?_
        refine gCallSJ X67 hx hZ (y := (⟨"com/example/anteroom/anteroom/PayloadWriterSetIntPinLaw", "expect", "(IIIII)B"⟩ : MethodName)) hown e67 (by rw [hml]; rfl) (hw _ (List.mem_of_getElem? (i := 59) rfl)) (hw _ (List.mem_of_getElem? (i := 60) rfl)) (hw _ (List.mem_of_getElem? (i := 61) rfl)) (hw _ (List.mem_of_getElem? (i := 62) rfl)) (by decide) (argsL := [(.int (0 : Int32)), (.int p1), (.int p2), (.int (4 : Int32)), (.int p4)]) (st := [(.int ((sh (sh p1 16) 8)).toInt8.toInt32)]) (c_ex l Z a0 hw (0 : Int32) p1 p2 (4 : Int32) p4 _) (lenOf pd_7 rfl) (hb hby at_89) (pc' := 92) rfl rfl rfl rfl (by decide) (W := 1) (Nat.le_of_eq rfl) (by decide) (by decide) (by decide) ?_
        intro T68 X68 e68
        refine gIcmpNe X68 hx (hb hby at_92) (pc' := 222) (by decide) (by decide) (pn := 95) rfl (fun (c92 : ¬ ((sh (sh p1 16) 8)).toInt8.toInt32 = (ex (0 : Int32) p1 p2 (4 : Int32) p4)) => ?_) (fun (c92 : ((sh (sh p1 16) 8)).toInt8.toInt32 = (ex (0 : Int32) p1 p2 (4 : Int32) p4)) => ?_)
        · exact absurd (show _ = ex 0 p1 p2 4 p4 from own_b0 _) c92
        · refine gLoadA X68 hx (hb hby at_95) (pc' := 97) rfl rfl rfl ?_
          refine gIconst X68 hx (v := (1 : Int32)) (hb hby at_97) (pc' := 98) rfl rfl ?_
          refine gBaload X68 hx hZ e68 A1 (j := (1 : Int32)) (v := (.int ((sh p1 16)).toInt8.toInt32)) (by decide) (own_lt (by have : (1 : Int32).toInt = 1 := rfl; omega)) rfl (hb hby at_98) (pc' := 99) rfl ?_
          refine gIconst X68 hx (v := (1 : Int32)) (hb hby at_99) (pc' := 100) rfl rfl ?_
          refine gLoadIN X68 hx (hb hby at_100) (pc' := 101) rfl rfl ?_
          refine gLoadIN X68 hx (hb hby at_101) (pc' := 102) rfl rfl ?_
          refine gLoadI X68 hx (hb hby at_102) (pc' := 104) rfl rfl ?_
          refine gLoadI X68 hx (hb hby at_104) (pc' := 106) rfl rfl ?_
          refine gCallSJ X68 hx hZ (y := (⟨"com/example/anteroom/anteroom/PayloadWriterSetIntPinLaw", "expect", "(IIIII)B"⟩ : MethodName)) hown e68 (by rw [hml]; rfl) (hw _ (List.mem_of_getElem? (i := 59) rfl)) (hw _ (List.mem_of_getElem? (i := 60) rfl)) (hw _ (List.mem_of_getElem? (i := 61) rfl)) (hw _ (List.mem_of_getElem? (i := 62) rfl)) (by decide) (argsL := [(.int (1 : Int32)), (.int p1), (.int p2), (.int (4 : Int32)), (.int p4)]) (st := [(.int ((sh p1 16)).toInt8.toInt32)]) (c_ex l Z a0 hw (1 : Int32) p1 p2 (4 : Int32) p4 _) (lenOf pd_7 rfl) (hb hby at_106) (pc' := 109) rfl rfl rfl rfl (by decide) (W := 1) (Nat.le_of_eq rfl) (by decide) (by decide) (by decide) ?_
          intro T69 X69 e69
          refine gIcmpNe X69 hx (hb hby at_109) (pc' := 222) (by decide) (by decide) (pn := 112) rfl (fun (c109 : ¬ ((sh p1 16)).toInt8.toInt32 = (ex (1 : Int32) p1 p2 (4 : Int32) p4)) => ?_) (fun (c109 : ((sh p1 16)).toInt8.toInt32 = (ex (1 : Int32) p1 p2 (4 : Int32) p4)) => ?_)
          · exact absurd (show _ = ex 1 p1 p2 4 p4 from rfl) c109
          · refine gLoadA X69 hx (hb hby at_112) (pc' := 114) rfl rfl rfl ?_
            refine gIconst X69 hx (v := (2 : Int32)) (hb hby at_114) (pc' := 115) rfl rfl ?_
            refine gBaload X69 hx hZ e69 A1 (j := (2 : Int32)) (v := (.int ((sh p1 8)).toInt8.toInt32)) (by decide) (own_lt (by have : (2 : Int32).toInt = 2 := rfl; omega)) rfl (hb hby at_115) (pc' := 116) rfl ?_
            refine gIconst X69 hx (v := (2 : Int32)) (hb hby at_116) (pc' := 117) rfl rfl ?_
            refine gLoadIN X69 hx (hb hby at_117) (pc' := 118) rfl rfl ?_
            refine gLoadIN X69 hx (hb hby at_118) (pc' := 119) rfl rfl ?_
            refine gLoadI X69 hx (hb hby at_119) (pc' := 121) rfl rfl ?_
            refine gLoadI X69 hx (hb hby at_121) (pc' := 123) rfl rfl ?_
            refine gCallSJ X69 hx hZ (y := (⟨"com/example/anteroom/anteroom/PayloadWriterSetIntPinLaw", "expect", "(IIIII)B"⟩ : MethodName)) hown e69 (by rw [hml]; rfl) (hw _ (List.mem_of_getElem? (i := 59) rfl)) (hw _ (List.mem_of_getElem? (i := 60) rfl)) (hw _ (List.mem_of_getElem? (i := 61) rfl)) (hw _ (List.mem_of_getElem? (i := 62) rfl)) (by decide) (argsL := [(.int (2 : Int32)), (.int p1), (.int p2), (.int (4 : Int32)), (.int p4)]) (st := [(.int ((sh p1 8)).toInt8.toInt32)]) (c_ex l Z a0 hw (2 : Int32) p1 p2 (4 : Int32) p4 _) (lenOf pd_7 rfl) (hb hby at_123) (pc' := 126) rfl rfl rfl rfl (by decide) (W := 1) (Nat.le_of_eq rfl) (by decide) (by decide) (by decide) ?_
            intro T70 X70 e70
            refine gIcmpNe X70 hx (hb hby at_126) (pc' := 222) (by decide) (by decide) (pn := 129) rfl (fun (c126 : ¬ ((sh p1 8)).toInt8.toInt32 = (ex (2 : Int32) p1 p2 (4 : Int32) p4)) => ?_) (fun (c126 : ((sh p1 8)).toInt8.toInt32 = (ex (2 : Int32) p1 p2 (4 : Int32) p4)) => ?_)
            · exact absurd (show _ = ex 2 p1 p2 4 p4 from rfl) c126
            · refine gLoadA X70 hx (hb hby at_129) (pc' := 131) rfl rfl rfl ?_
              refine gIconst X70 hx (v := (3 : Int32)) (hb hby at_131) (pc' := 132) rfl rfl ?_
              refine gBaload X70 hx hZ e70 A1 (j := (3 : Int32)) (v := (.int (p1).toInt8.toInt32)) (by decide) (own_lt (by have : (3 : Int32).toInt = 3 := rfl; omega)) rfl (hb hby at_132) (pc' := 133) rfl ?_
              refine gIconst X70 hx (v := (3 : Int32)) (hb hby at_133) (pc' := 134) rfl rfl ?_
              refine gLoadIN X70 hx (hb hby at_134) (pc' := 135) rfl rfl ?_
              refine gLoadIN X70 hx (hb hby at_135) (pc' := 136) rfl rfl ?_
              refine gLoadI X70 hx (hb hby at_136) (pc' := 138) rfl rfl ?_
              refine gLoadI X70 hx (hb hby at_138) (pc' := 140) rfl rfl ?_
              refine gCallSJ X70 hx hZ (y := (⟨"com/example/anteroom/anteroom/PayloadWriterSetIntPinLaw", "expect", "(IIIII)B"⟩ : MethodName)) hown e70 (by rw [hml]; rfl) (hw _ (List.mem_of_getElem? (i := 59) rfl)) (hw _ (List.mem_of_getElem? (i := 60) rfl)) (hw _ (List.mem_of_getElem? (i := 61) rfl)) (hw _ (List.mem_of_getElem? (i := 62) rfl)) (by decide) (argsL := [(.int (3 : Int32)), (.int p1), (.int p2), (.int (4 : Int32)), (.int p4)]) (st := [(.int (p1).toInt8.toInt32)]) (c_ex l Z a0 hw (3 : Int32) p1 p2 (4 : Int32) p4 _) (lenOf pd_7 rfl) (hb hby at_140) (pc' := 143) rfl rfl rfl rfl (by decide) (W := 1) (Nat.le_of_eq rfl) (by decide) (by decide) (by decide) ?_
              intro T71 X71 e71
              refine gIcmpNe X71 hx (hb hby at_143) (pc' := 222) (by decide) (by decide) (pn := 146) rfl (fun (c143 : ¬ (p1).toInt8.toInt32 = (ex (3 : Int32) p1 p2 (4 : Int32) p4)) => ?_) (fun (c143 : (p1).toInt8.toInt32 = (ex (3 : Int32) p1 p2 (4 : Int32) p4)) => ?_)
              · exact absurd (show _ = ex 3 p1 p2 4 p4 from own_b3 _) c143
              · refine gLoadA X71 hx (hb hby at_146) (pc' := 148) rfl rfl rfl ?_
                refine gIconst X71 hx (v := (4 : Int32)) (hb hby at_148) (pc' := 149) rfl rfl ?_
                refine gBaload X71 hx hZ e71 A1 (j := (4 : Int32)) (v := (.int ((sh p4 8)).toInt8.toInt32)) (by decide) (own_lt (by have : (4 : Int32).toInt = 4 := rfl; omega)) rfl (hb hby at_149) (pc' := 150) rfl ?_
                refine gIconst X71 hx (v := (4 : Int32)) (hb hby at_150) (pc' := 151) rfl rfl ?_
                refine gLoadIN X71 hx (hb hby at_151) (pc' := 152) rfl rfl ?_
                refine gLoadIN X71 hx (hb hby at_152) (pc' := 153) rfl rfl ?_
                refine gLoadI X71 hx (hb hby at_153) (pc' := 155) rfl rfl ?_
                refine gLoadI X71 hx (hb hby at_155) (pc' := 157) rfl rfl ?_
                refine gCallSJ X71 hx hZ (y := (⟨"com/example/anteroom/anteroom/PayloadWriterSetIntPinLaw", "expect", "(IIIII)B"⟩ : MethodName)) hown e71 (by rw [hml]; rfl) (hw _ (List.mem_of_getElem? (i := 59) rfl)) (hw _ (List.mem_of_getElem? (i := 60) rfl)) (hw _ (List.mem_of_getElem? (i := 61) rfl)) (hw _ (List.mem_of_getElem? (i := 62) rfl)) (by decide) (argsL := [(.int (4 : Int32)), (.int p1), (.int p2), (.int (4 : Int32)), (.int p4)]) (st := [(.int ((sh p4 8)).toInt8.toInt32)]) (c_ex l Z a0 hw (4 : Int32) p1 p2 (4 : Int32) p4 _) (lenOf pd_7 rfl) (hb hby at_157) (pc' := 160) rfl rfl rfl rfl (by decide) (W := 1) (Nat.le_of_eq rfl) (by decide) (by decide) (by decide) ?_
                intro T72 X72 e72
                refine gIcmpNe X72 hx (hb hby at_160) (pc' := 222) (by decide) (by decide) (pn := 163) rfl (fun (c160 : ¬ ((sh p4 8)).toInt8.toInt32 = (ex (4 : Int32) p1 p2 (4 : Int32) p4)) => ?_) (fun (c160 : ((sh p4 8)).toInt8.toInt32 = (ex (4 : Int32) p1 p2 (4 : Int32) p4)) => ?_)
                · exact absurd (show _ = ex 4 p1 p2 4 p4 from rfl) c160
                · refine gLoadA X72 hx (hb hby at_163) (pc' := 165) rfl rfl rfl ?_
                  refine gIconst X72 hx (v := (5 : Int32)) (hb hby at_165) (pc' := 166) rfl rfl ?_
                  refine gBaload X72 hx hZ e72 A1 (j := (5 : Int32)) (v := (.int (p4).toInt8.toInt32)) (by decide) (own_lt (by have : (5 : Int32).toInt = 5 := rfl; omega)) rfl (hb hby at_166) (pc' := 167) rfl ?_
                  refine gIconst X72 hx (v := (5 : Int32)) (hb hby at_167) (pc' := 168) rfl rfl ?_
                  refine gLoadIN X72 hx (hb hby at_168) (pc' := 169) rfl rfl ?_
                  refine gLoadIN X72 hx (hb hby at_169) (pc' := 170) rfl rfl ?_
                  refine gLoadI X72 hx (hb hby at_170) (pc' := 172) rfl rfl ?_
                  refine gLoadI X72 hx (hb hby at_172) (pc' := 174) rfl rfl ?_
                  refine gCallSJ X72 hx hZ (y := (⟨"com/example/anteroom/anteroom/PayloadWriterSetIntPinLaw", "expect", "(IIIII)B"⟩ : MethodName)) hown e72 (by rw [hml]; rfl) (hw _ (List.mem_of_getElem? (i := 59) rfl)) (hw _ (List.mem_of_getElem? (i := 60) rfl)) (hw _ (List.mem_of_getElem? (i := 61) rfl)) (hw _ (List.mem_of_getElem? (i := 62) rfl)) (by decide) (argsL := [(.int (5 : Int32)), (.int p1), (.int p2), (.int (4 : Int32)), (.int p4)]) (st := [(.int (p4).toInt8.toInt32)]) (c_ex l Z a0 hw (5 : Int32) p1 p2 (4 : Int32) p4 _) (lenOf pd_7 rfl) (hb hby at_174) (pc' := 177) rfl rfl rfl rfl (by decide) (W := 1) (Nat.le_of_eq rfl) (by decide) (by decide) (by decide) ?_
                  intro T73 X73 e73
                  refine gIcmpNe X73 hx (hb hby at_177) (pc' := 222) (by decide) (by decide) (pn := 180) rfl (fun (c177 : ¬ (p4).toInt8.toInt32 = (ex (5 : Int32) p1 p2 (4 : Int32) p4)) => ?_) (fun (c177 : (p4).toInt8.toInt32 = (ex (5 : Int32) p1 p2 (4 : Int32) p4)) => ?_)
                  · exact absurd (show _ = ex 5 p1 p2 4 p4 from rfl) c177
                  · refine gLoadA X73 hx (hb hby at_180) (pc' := 182) rfl rfl rfl ?_
                    refine gBipush X73 hx (v := (6 : Int32)) (hb hby at_182) (pc' := 184) rfl rfl ?_
                    refine gBaload X73 hx hZ e73 A1 (j := (6 : Int32)) (v := (.int ((sh p2 8)).toInt8.toInt32)) (by decide) (own_lt (by have : (6 : Int32).toInt = 6 := rfl; omega)) rfl (hb hby at_184) (pc' := 185) rfl ?_
                    refine gBipush X73 hx (v := (6 : Int32)) (hb hby at_185) (pc' := 187) rfl rfl ?_
                    refine gLoadIN X73 hx (hb hby at_187) (pc' := 188) rfl rfl ?_
                    refine gLoadIN X73 hx (hb hby at_188) (pc' := 189) rfl rfl ?_
                    refine gLoadI X73 hx (hb hby at_189) (pc' := 191) rfl rfl ?_
                    refine gLoadI X73 hx (hb hby at_191) (pc' := 193) rfl rfl ?_
                    refine gCallSJ X73 hx hZ (y := (⟨"com/example/anteroom/anteroom/PayloadWriterSetIntPinLaw", "expect", "(IIIII)B"⟩ : MethodName)) hown e73 (by rw [hml]; rfl) (hw _ (List.mem_of_getElem? (i := 59) rfl)) (hw _ (List.mem_of_getElem? (i := 60) rfl)) (hw _ (List.mem_of_getElem? (i := 61) rfl)) (hw _ (List.mem_of_getElem? (i := 62) rfl)) (by decide) (argsL := [(.int (6 : Int32)), (.int p1), (.int p2), (.int (4 : Int32)), (.int p4)]) (st := [(.int ((sh p2 8)).toInt8.toInt32)]) (c_ex l Z a0 hw (6 : Int32) p1 p2 (4 : Int32) p4 _) (lenOf pd_7 rfl) (hb hby at_193) (pc' := 196) rfl rfl rfl rfl (by decide) (W := 1) (Nat.le_of_eq rfl) (by decide) (by decide) (by decide) ?_
                    intro T74 X74 e74
                    refine gIcmpNe X74 hx (hb hby at_196) (pc' := 222) (by decide) (by decide) (pn := 199) rfl (fun (c196 : ¬ ((sh p2 8)).toInt8.toInt32 = (ex (6 : Int32) p1 p2 (4 : Int32) p4)) => ?_) (fun (c196 : ((sh p2 8)).toInt8.toInt32 = (ex (6 : Int32) p1 p2 (4 : Int32) p4)) => ?_)
                    · exact absurd (show _ = ex 6 p1 p2 4 p4 from rfl) c196
                    · refine gLoadA X74 hx (hb hby at_199) (pc' := 201) rfl rfl rfl ?_
                      refine gBipush X74 hx (v := (7 : Int32)) (hb hby at_201) (pc' := 203) rfl rfl ?_
                      refine gBaload X74 hx hZ e74 A1 (j := (7 : Int32)) (v := (.int (p2).toInt8.toInt32)) (by decide) (own_lt (by have : (7 : Int32).toInt = 7 := rfl; omega)) rfl (hb hby at_203) (pc' := 204) rfl ?_
                      refine gBipush X74 hx (v := (7 : Int32)) (hb hby at_204) (pc' := 206) rfl rfl ?_
                      refine gLoadIN X74 hx (hb hby at_206) (pc' := 207) rfl rfl ?_
                      refine gLoadIN X74 hx (hb hby at_207) (pc' := 208) rfl rfl ?_
                      refine gLoadI X74 hx (hb hby at_208) (pc' := 210) rfl rfl ?_
                      refine gLoadI X74 hx (hb hby at_210) (pc' := 212) rfl rfl ?_
                      refine gCallSJ X74 hx hZ (y := (⟨"com/example/anteroom/anteroom/PayloadWriterSetIntPinLaw", "expect", "(IIIII)B"⟩ : MethodName)) hown e74 (by rw [hml]; rfl) (hw _ (List.mem_of_getElem? (i := 59) rfl)) (hw _ (List.mem_of_getElem? (i := 60) rfl)) (hw _ (List.mem_of_getElem? (i := 61) rfl)) (hw _ (List.mem_of_getElem? (i := 62) rfl)) (by decide) (argsL := [(.int (7 : Int32)), (.int p1), (.int p2), (.int (4 : Int32)), (.int p4)]) (st := [(.int (p2).toInt8.toInt32)]) (c_ex l Z a0 hw (7 : Int32) p1 p2 (4 : Int32) p4 _) (lenOf pd_7 rfl) (hb hby at_212) (pc' := 215) rfl rfl rfl rfl (by decide) (W := 1) (Nat.le_of_eq rfl) (by decide) (by decide) (by decide) ?_
                      intro T75 X75 e75
                      refine gIcmpNe X75 hx (hb hby at_215) (pc' := 222) (by decide) (by decide) (pn := 218) rfl (fun (c215 : ¬ (p2).toInt8.toInt32 = (ex (7 : Int32) p1 p2 (4 : Int32) p4)) => ?_) (fun (c215 : (p2).toInt8.toInt32 = (ex (7 : Int32) p1 p2 (4 : Int32) p4)) => ?_)
                      · exact absurd (show _ = ex 7 p1 p2 4 p4 from own_b3 _) c215
                      · refine gIconst X75 hx (v := (1 : Int32)) (hb hby at_218) (pc' := 219) rfl rfl ?_
                        refine gGoto X75 hx (hb hby at_219) (pc' := 223) (by decide) (by decide) ?_
                        refine gStoreI X75 hx (hb hby at_223) (l' := #[.val (.int p0), .val (.int p1), .val (.int p2), .val (.int p3), .val (.int p4), .val (.int cap), .val (.int (4 : Int32)), .val (.ref b61), .val (.ref b'), .val (.int (1 : Int32)), .unset]) (pc' := 225) rfl rfl ?_
                        refine gLoadA X75 hx (hb hby at_225) (pc' := 227) rfl rfl rfl ?_
                        refine gLoadI X75 hx (hb hby at_227) (pc' := 229) rfl rfl ?_
                        refine gBaload X75 hx hZ e75 A1 (j := (4 : Int32)) (v := (.int ((sh p4 8)).toInt8.toInt32)) (by decide) (own_lt (by have : (4 : Int32).toInt = 4 := rfl; omega)) rfl (hb hby at_229) (pc' := 230) rfl ?_
                        refine gSipush X75 hx (v := (255 : Int32)) (hb hby at_230) (pc' := 233) rfl rfl ?_
                        refine gIand X75 hx (hb hby at_233) (pc' := 234) rfl ?_
                        refine gBipush X75 hx (v := (8 : Int32)) (hb hby at_234) (pc' := 236) rfl rfl ?_
                        refine gIshl X75 hx (hb hby at_236) (pc' := 237) rfl ?_
                        refine gLoadA X75 hx (hb hby at_237) (pc' := 239) rfl rfl rfl ?_
                        refine gLoadI X75 hx (hb hby at_239) (pc' := 241) rfl rfl ?_
                        refine gIconst X75 hx (v := (1 : Int32)) (hb hby at_241) (pc' := 242) rfl rfl ?_
                        refine gIadd X75 hx (hb hby at_242) (pc' := 243) rfl ?_
                        show Goes p e below _ T75 (mkF m 243 #[.val (.int p0), .val (.int p1), .val (.int p2), .val (.int p3), .val (.int p4), .val (.int cap), .val (.int (4 : Int32)), .val (.ref b61), .val (.ref b'), .val (.int (1 : Int32)), .unset] [(.int (5 : Int32)), (.ref b'), (.int ((((sh p4 8)).toInt8.toInt32 &&& (255 : Int32)) <<< ((8 : Int32) &&& 31)))])
                        refine gBaload X75 hx hZ e75 A1 (j := (5 : Int32)) (v := (.int (p4).toInt8.toInt32)) (by decide) (own_lt (by have : (5 : Int32).toInt = 5 := rfl; omega)) rfl (hb hby at_243) (pc' := 244) rfl ?_
                        refine gSipush X75 hx (v := (255 : Int32)) (hb hby at_244) (pc' := 247) rfl rfl ?_
                        refine gIand X75 hx (hb hby at_247) (pc' := 248) rfl ?_
                        refine gIor X75 hx (hb hby at_248) (pc' := 249) rfl ?_
                        refine gStoreI X75 hx (hb hby at_249) (l' := #[.val (.int p0), .val (.int p1), .val (.int p2), .val (.int p3), .val (.int p4), .val (.int cap), .val (.int (4 : Int32)), .val (.ref b61), .val (.ref b'), .val (.int (1 : Int32)), .val (.int (((((sh p4 8)).toInt8.toInt32 &&& (255 : Int32)) <<< ((8 : Int32) &&& 31)) ||| ((p4).toInt8.toInt32 &&& (255 : Int32))))]) (pc' := 251) rfl rfl ?_
                        refine gLoadI X75 hx (hb hby at_251) (pc' := 253) rfl rfl ?_
                        refine gIfEqT X75 hx (hb hby at_253) (pc' := 270) (by decide) (by decide) (pn := 256) rfl (fun (c253 : (1 : Int) = (0 : Int)) => ?_) (fun (c253 : ¬ (1 : Int) = (0 : Int)) => ?_)
                        · exact absurd c253 (by decide)
                        · refine gLoadI X75 hx (hb hby at_256) (pc' := 258) rfl rfl ?_
                          refine gLoadI X75 hx (hb hby at_258) (pc' := 260) rfl rfl ?_
                          refine gLdc X75 hx hZ hown (hw _ (List.mem_of_getElem? (i := 63) rfl)) (hb hby at_260) (pc' := 262) rfl ?_
                          refine gIand X75 hx (hb hby at_262) (pc' := 263) rfl ?_
                          refine gIcmpNe X75 hx (hb hby at_263) (pc' := 270) (by decide) (by decide) (pn := 266) rfl (fun (c263 : ¬ (((((sh p4 8)).toInt8.toInt32 &&& (255 : Int32)) <<< ((8 : Int32) &&& 31)) ||| ((p4).toInt8.toInt32 &&& (255 : Int32))) = (p4 &&& (65535 : Int32))) => ?_) (fun (c263 : (((((sh p4 8)).toInt8.toInt32 &&& (255 : Int32)) <<< ((8 : Int32) &&& 31)) ||| ((p4).toInt8.toInt32 &&& (255 : Int32))) = (p4 &&& (65535 : Int32))) => ?_)
                          · exact absurd (own_rd p4) c263
                          · refine gIconst X75 hx (v := (1 : Int32)) (hb hby at_266) (pc' := 267) rfl rfl ?_
                            refine gGoto X75 hx (hb hby at_267) (pc' := 271) (by decide) (by decide) ?_
                            exact gRetN X75 hx hlk hret (by simp) (hb hby at_271) (w := (1 : Int32)) rfl (by decide) (by decide) (⟨rfl, N65⟩)
      · exact absurd c73 (by omega)
    · exact absurd c63 (by decide)
  · refine gStoreI X0 hx (hb hby at_13) (l' := #[.val (.int p0), .val (.int p1), .val (.int p2), .val (.int p3), .val (.int p4), .val (.int cap), .val (.int (5 : Int32)), .unset, .unset, .unset, .unset]) (pc' := 15) rfl rfl ?_
    refine gNew X0 hx hZ hown (hw _ (List.mem_of_getElem? (i := 1) rfl)) (hw _ (List.mem_of_getElem? (i := 2) rfl)) (hw _ (List.mem_of_getElem? (i := 3) rfl)) e0 (hb hby at_15) (pc' := 18) rfl (by decide) (by decide) (fun T76 h76 b76 X76 e76 g76 E76 A76 D76 => ?_)
    have sz_b76 : h0.size ≤ b76 := Nat.le_trans (Nat.le_refl _) (Nat.le_of_eq g76.symm)
    have zs76 : h0.size ≤ h76.size := Nat.le_trans (Nat.le_refl _) E76.1
    have F76_octets : Fld Z h76 b76 "com/example/anteroom/anteroom/PayloadWriter" "octets" "[B" .null := D76 (Or.inl (hw _ (List.mem_of_getElem? (i := 12) rfl))) (ty := (.array .byte)) (by decide)
    have F76_length : Fld Z h76 b76 "com/example/anteroom/anteroom/PayloadWriter" "length" "I" (.int (0 : Int32)) := D76 (Or.inl (hw _ (List.mem_of_getElem? (i := 28) rfl))) (ty := .int) (by decide)
    refine gDup X76 hx (hb hby at_18) (pc' := 19) rfl rfl ?_
    refine gLoadI X76 hx (hb hby at_19) (pc' := 21) rfl rfl ?_
    refine gCallI X76 hx hZ (y := (⟨"com/example/anteroom/anteroom/PayloadWriter", "<init>", "(I)V"⟩ : MethodName)) rfl hown e76 (by rw [hml]; rfl) (hw _ (List.mem_of_getElem? (i := 4) rfl)) (hw _ (List.mem_of_getElem? (i := 5) rfl)) (hw _ (List.mem_of_getElem? (i := 3) rfl)) (hw _ (List.mem_of_getElem? (i := 6) rfl)) (by decide) (argsL := [(.int cap)]) (st := [(.ref b76)]) (c_init l Z a0 hw b76 cap h0.size h76 sz_b76 zs76 hcap.1 hcap.2 A76 F76_octets F76_length) (lenOf pd_4 rfl) (hb hby at_21) (pc' := 24) rfl rfl (by decide) (W := 1) (Nat.le_of_eq rfl) (by decide) (by decide) (by decide) ?_
    intro T77 v77 L77 X77 hQ77
    obtain ⟨rfl, Nq77, hB77⟩ := hQ77
    have N77 := Fr.app (Fr.nil h0.size) Nq77
    have hb77 := hB77
    obtain ⟨_, _, _, _, _, _, _, _, E77, -⟩ := hb77
    refine gStoreA X77 hx (hb hby at_24) (l' := #[.val (.int p0), .val (.int p1), .val (.int p2), .val (.int p3), .val (.int p4), .val (.int cap), .val (.int (5 : Int32)), .val (.ref b76), .unset, .unset, .unset]) (pc' := 26) rfl rfl rfl ?_
    refine gLoadA X77 hx (hb hby at_26) (pc' := 28) rfl rfl rfl ?_
    refine gLoadIN X77 hx (hb hby at_28) (pc' := 29) rfl rfl ?_
    refine gCallV X77 hx hZ (y := (⟨"com/example/anteroom/anteroom/PayloadWriter", "writeInt32", "(I)Lcom/example/anteroom/anteroom/PayloadWriter;"⟩ : MethodName)) hown rfl (by rw [hml]; rfl) E77 (hw _ (List.mem_of_getElem? (i := 13) rfl)) (hw _ (List.mem_of_getElem? (i := 14) rfl)) (hw _ (List.mem_of_getElem? (i := 16) rfl)) (hw _ (List.mem_of_getElem? (i := 15) rfl)) (hw _ (List.mem_of_getElem? (i := 3) rfl)) (hw _ (List.mem_of_getElem? (i := 17) rfl)) (by decide) (argsL := [(.int p1)]) (st := []) (c_w32 l Z a0 hw b76 p1 [] h0.size T77.heap hB77 (by simp)) (lenOf pd_3 rfl) (hb hby at_29) (pc' := 32) rfl rfl (by decide) (W := 0) (Nat.le_of_eq rfl) (by decide) (by decide) (by decide) ?_
    intro T78 v78 L78 X78 hQ78
    obtain ⟨rfl, Nq78, hB78⟩ := hQ78
    have N78 := Fr.app N77 Nq78
    have hb78 := hB78
    obtain ⟨_, _, _, _, _, _, _, _, E78, -⟩ := hb78
    refine gPop X78 hx (hb hby at_32) (pc' := 33) rfl rfl ?_
    refine gLoadA X78 hx (hb hby at_33) (pc' := 35) rfl rfl rfl ?_
    refine gLoadIN X78 hx (hb hby at_35) (pc' := 36) rfl rfl ?_
    refine gCallV X78 hx hZ (y := (⟨"com/example/anteroom/anteroom/PayloadWriter", "writeInt32", "(I)Lcom/example/anteroom/anteroom/PayloadWriter;"⟩ : MethodName)) hown rfl (by rw [hml]; rfl) E78 (hw _ (List.mem_of_getElem? (i := 13) rfl)) (hw _ (List.mem_of_getElem? (i := 14) rfl)) (hw _ (List.mem_of_getElem? (i := 16) rfl)) (hw _ (List.mem_of_getElem? (i := 15) rfl)) (hw _ (List.mem_of_getElem? (i := 3) rfl)) (hw _ (List.mem_of_getElem? (i := 17) rfl)) (by decide) (argsL := [(.int p2)]) (st := []) (c_w32 l Z a0 hw b76 p2 [byteOf (sh (sh p1 16) 8), byteOf (sh p1 16), byteOf (sh p1 8), byteOf p1] h0.size T78.heap hB78 (by simp)) (lenOf pd_3 rfl) (hb hby at_36) (pc' := 39) rfl rfl (by decide) (W := 0) (Nat.le_of_eq rfl) (by decide) (by decide) (by decide) ?_
    intro T79 v79 L79 X79 hQ79
    obtain ⟨rfl, Nq79, hB79⟩ := hQ79
    have N79 := Fr.app N78 Nq79
    have hb79 := hB79
    obtain ⟨_, _, _, _, _, _, _, _, E79, -⟩ := hb79
    refine gPop X79 hx (hb hby at_39) (pc' := 40) rfl rfl ?_
    refine gLoadA X79 hx (hb hby at_40) (pc' := 42) rfl rfl rfl ?_
    refine gLoadI X79 hx (hb hby at_42) (pc' := 44) rfl rfl ?_
    refine gLoadI X79 hx (hb hby at_44) (pc' := 46) rfl rfl ?_
    refine gCallV X79 hx hZ (y := (⟨"com/example/anteroom/anteroom/PayloadWriter", "setInt", "(II)V"⟩ : MethodName)) hown rfl (by rw [hml]; rfl) E79 (hw _ (List.mem_of_getElem? (i := 44) rfl)) (hw _ (List.mem_of_getElem? (i := 45) rfl)) (hw _ (List.mem_of_getElem? (i := 47) rfl)) (hw _ (List.mem_of_getElem? (i := 46) rfl)) (hw _ (List.mem_of_getElem? (i := 3) rfl)) (hw _ (List.mem_of_getElem? (i := 48) rfl)) (by decide) (argsL := [(.int (5 : Int32)), (.int p4)]) (st := []) (c_set l Z a0 hw b76 (5) p4 5 [byteOf (sh (sh p1 16) 8), byteOf (sh p1 16), byteOf (sh p1 8), byteOf p1, byteOf (sh (sh p2 16) 8), byteOf (sh p2 16), byteOf (sh p2 8), byteOf p2] h0.size T79.heap hB79 rfl (by simp) (by simp)) (lenOf pd_6 rfl) (hb hby at_46) (pc' := 49) rfl rfl (by decide) (W := 0) (Nat.le_of_eq rfl) (by decide) (by decide) (by decide) ?_
    intro T80 v80 L80 X80 hQ80
    obtain ⟨rfl, Nq80, hB80⟩ := hQ80
    have N80 := Fr.app N79 Nq80
    replace hB80 : Buf Z T80.heap h0.size b76 [byteOf (sh (sh p1 16) 8), byteOf (sh p1 16), byteOf (sh p1 8), byteOf p1, byteOf (sh (sh p2 16) 8), byteOf (sh p4 8), byteOf p4, byteOf p2] 0 := hB80
    obtain ⟨b', ck', n', k', r', -, -, -, E1, F1, F2, A1, hk', hn', -, -⟩ := hB80
    simp only [List.length_cons, List.length_nil] at hk' hn'
    obtain rfl : k' = 8 := Int32.toInt_inj.mp hk'
    refine gLoadA X80 hx (hb hby at_49) (pc' := 51) rfl rfl rfl ?_
    refine gCallVJ X80 hx hZ (y := (⟨"com/example/anteroom/anteroom/PayloadWriter", "array", "()[B"⟩ : MethodName)) hown rfl (by rw [hml]; rfl) E1 (hw _ (List.mem_of_getElem? (i := 49) rfl)) (hw _ (List.mem_of_getElem? (i := 50) rfl)) (hw _ (List.mem_of_getElem? (i := 52) rfl)) (hw _ (List.mem_of_getElem? (i := 51) rfl)) (hw _ (List.mem_of_getElem? (i := 3) rfl)) (hw _ (List.mem_of_getElem? (i := 53) rfl)) (by decide) (argsL := []) (st := []) (c_arr l Z a0 hw b76 b' 0 _ F1) (lenOf pd_2 rfl) (hb hby at_51) (pc' := 54) rfl rfl rfl rfl (by decide) (W := 0) (Nat.le_of_eq rfl) (by decide) (by decide) (by decide) ?_
    intro T81 X81 e81
    refine gStoreA X81 hx (hb hby at_54) (l' := #[.val (.int p0), .val (.int p1), .val (.int p2), .val (.int p3), .val (.int p4), .val (.int cap), .val (.int (5 : Int32)), .val (.ref b76), .val (.ref b'), .unset, .unset]) (pc' := 56) rfl rfl rfl ?_
    refine gLoadA X81 hx (hb hby at_56) (pc' := 58) rfl rfl rfl ?_
    refine gCallVJ X81 hx hZ (y := (⟨"com/example/anteroom/anteroom/PayloadWriter", "length", "()I"⟩ : MethodName)) hown e81 (by rw [hml]; rfl) E1 (hw _ (List.mem_of_getElem? (i := 54) rfl)) (hw _ (List.mem_of_getElem? (i := 55) rfl)) (hw _ (List.mem_of_getElem? (i := 57) rfl)) (hw _ (List.mem_of_getElem? (i := 56) rfl)) (hw _ (List.mem_of_getElem? (i := 3) rfl)) (hw _ (List.mem_of_getElem? (i := 58) rfl)) (by decide) (argsL := []) (st := []) (c_len l Z a0 hw b76 0 8 _ F2) (lenOf pd_0 rfl) (hb hby at_58) (pc' := 61) rfl rfl rfl rfl (by decide) (W := 0) (Nat.le_of_eq rfl) (by decide) (by decide) (by decide) ?_
    intro T82 X82 e82
    refine gBipush X82 hx (v := (8 : Int32)) (hb hby at_61) (pc' := 63) rfl rfl ?_
    refine gIcmpEqT X82 hx (hb hby at_63) (pc' := 68) (by decide) (by decide) (pn := 66) rfl (fun (c63 : (8 : Int) = (8 : Int)) => ?_) (fun (c63 : ¬ (8 : Int) = (8 : Int)) => ?_)
    · refine gLoadA X82 hx (hb hby at_68) (pc' := 70) rfl rfl rfl ?_
      refine gArrLen X82 hx hZ e82 A1 (hb hby at_70) (pc' := 71) rfl ?_
      refine gBipush X82 hx (v := (8 : Int32)) (hb hby at_71) (pc' := 73) rfl rfl ?_
      refine gIcmpGe X82 hx (hb hby at_73) (pc' := 78) (by decide) (by decide) (pn := 76) rfl (fun (c73 : (8 : Int) ≤ n'.toInt) => ?_) (fun (c73 : n'.toInt < (8 : Int)) => ?_)
      · refine gLoadA X82 hx (hb hby at_78) (pc' := 80) rfl rfl rfl ?_
        refine gIconst X82 hx (v := (0 : Int32)) (hb hby at_80) (pc' := 81) rfl rfl ?_
        refine gBaload X82 hx hZ e82 A1 (j := (0 : Int32)) (v := (.int ((sh (sh p1 16) 8)).toInt8.toInt32)) (by decide) (own_lt (by have : (0 : Int32).toInt = 0 := rfl; omega)) rfl (hb hby at_81) (pc' := 82) rfl ?_
        refine gIconst X82 hx (v := (0 : Int32)) (hb hby at_82) (pc' := 83) rfl rfl ?_
        refine gLoadIN X82 hx (hb hby at_83) (pc' := 84) rfl rfl ?_
        refine gLoadIN X82 hx (hb hby at_84) (pc' := 85) rfl rfl ?_
        refine gLoadI X82 hx (hb hby at_85) (pc' := 87) rfl rfl ?_
        refine gLoadI X82 hx (hb hby at_87) (pc' := 89) rfl rfl ?_
        refine gCallSJ X82 hx hZ (y := (⟨"com/example/anteroom/anteroom/PayloadWriterSetIntPinLaw", "expect", "(IIIII)B"⟩ : MethodName)) hown e82 (by rw [hml]; rfl) (hw _ (List.mem_of_getElem? (i := 59) rfl)) (hw _ (List.mem_of_getElem? (i := 60) rfl)) (hw _ (List.mem_of_getElem? (i := 61) rfl)) (hw _ (List.mem_of_getElem? (i := 62) rfl)) (by decide) (argsL := [(.int (0 : Int32)), (.int p1), (.int p2), (.int (5 : Int32)), (.int p4)]) (st := [(.int ((sh (sh p1 16) 8)).toInt8.toInt32)]) (c_ex l Z a0 hw (0 : Int32) p1 p2 (5 : Int32) p4 _) (lenOf pd_7 rfl) (hb hby at_89) (pc' := 92) rfl rfl rfl rfl (by decide) (W := 1) (Nat.le_of_eq rfl) (by decide) (by decide) (by decide) ?_
        intro T83 X83 e83
        refine gIcmpNe X83 hx (hb hby at_92) (pc' := 222) (by decide) (by decide) (pn := 95) rfl (fun (c92 : ¬ ((sh (sh p1 16) 8)).toInt8.toInt32 = (ex (0 : Int32) p1 p2 (5 : Int32) p4)) => ?_) (fun (c92 : ((sh (sh p1 16) 8)).toInt8.toInt32 = (ex (0 : Int32) p1 p2 (5 : Int32) p4)) => ?_)
        · exact absurd (show _ = ex 0 p1 p2 5 p4 from own_b0 _) c92
        · refine gLoadA X83 hx (hb hby at_95) (pc' := 97) rfl rfl rfl ?_
          refine gIconst X83 hx (v := (1 : Int32)) (hb hby at_97) (pc' := 98) rfl rfl ?_
          refine gBaload X83 hx hZ e83 A1 (j := (1 : Int32)) (v := (.int ((sh p1 16)).toInt8.toInt32)) (by decide) (own_lt (by have : (1 : Int32).toInt = 1 := rfl; omega)) rfl (hb hby at_98) (pc' := 99) rfl ?_
          refine gIconst X83 hx (v := (1 : Int32)) (hb hby at_99) (pc' := 100) rfl rfl ?_
          refine gLoadIN X83 hx (hb hby at_100) (pc' := 101) rfl rfl ?_
          refine gLoadIN X83 hx (hb hby at_101) (pc' := 102) rfl rfl ?_
          refine gLoadI X83 hx (hb hby at_102) (pc' := 104) rfl rfl ?_
          refine gLoadI X83 hx (hb hby at_104) (pc' := 106) rfl rfl ?_
          refine gCallSJ X83 hx hZ (y := (⟨"com/example/anteroom/anteroom/PayloadWriterSetIntPinLaw", "expect", "(IIIII)B"⟩ : MethodName)) hown e83 (by rw [hml]; rfl) (hw _ (List.mem_of_getElem? (i := 59) rfl)) (hw _ (List.mem_of_getElem? (i := 60) rfl)) (hw _ (List.mem_of_getElem? (i := 61) rfl)) (hw _ (List.mem_of_getElem? (i := 62) rfl)) (by decide) (argsL := [(.int (1 : Int32)), (.int p1), (.int p2), (.int (5 : Int32)), (.int p4)]) (st := [(.int ((sh p1 16)).toInt8.toInt32)]) (c_ex l Z a0 hw (1 : Int32) p1 p2 (5 : Int32) p4 _) (lenOf pd_7 rfl) (hb hby at_106) (pc' := 109) rfl rfl rfl rfl (by decide) (W := 1) (Nat.le_of_eq rfl) (by decide) (by decide) (by decide) ?_
          intro T84 X84 e84
          refine gIcmpNe X84 hx (hb hby at_109) (pc' := 222) (by decide) (by decide) (pn := 112) rfl (fun (c109 : ¬ ((sh p1 16)).toInt8.toInt32 = (ex (1 : Int32) p1 p2 (5 : Int32) p4)) => ?_) (fun (c109 : ((sh p1 16)).toInt8.toInt32 = (ex (1 : Int32) p1 p2 (5 : Int32) p4)) => ?_)
          · exact absurd (show _ = ex 1 p1 p2 5 p4 from rfl) c109
          · refine gLoadA X84 hx (hb hby at_112) (pc' := 114) rfl rfl rfl ?_
            refine gIconst X84 hx (v := (2 : Int32)) (hb hby at_114) (pc' := 115) rfl rfl ?_
            refine gBaload X84 hx hZ e84 A1 (j := (2 : Int32)) (v := (.int ((sh p1 8)).toInt8.toInt32)) (by decide) (own_lt (by have : (2 : Int32).toInt = 2 := rfl; omega)) rfl (hb hby at_115) (pc' := 116) rfl ?_
            refine gIconst X84 hx (v := (2 : Int32)) (hb hby at_116) (pc' := 117) rfl rfl ?_
            refine gLoadIN X84 hx (hb hby at_117) (pc' := 118) rfl rfl ?_
            refine gLoadIN X84 hx (hb hby at_118) (pc' := 119) rfl rfl ?_
            refine gLoadI X84 hx (hb hby at_119) (pc' := 121) rfl rfl ?_
            refine gLoadI X84 hx (hb hby at_121) (pc' := 123) rfl rfl ?_
            refine gCallSJ X84 hx hZ (y := (⟨"com/example/anteroom/anteroom/PayloadWriterSetIntPinLaw", "expect", "(IIIII)B"⟩ : MethodName)) hown e84 (by rw [hml]; rfl) (hw _ (List.mem_of_getElem? (i := 59) rfl)) (hw _ (List.mem_of_getElem? (i := 60) rfl)) (hw _ (List.mem_of_getElem? (i := 61) rfl)) (hw _ (List.mem_of_getElem? (i := 62) rfl)) (by decide) (argsL := [(.int (2 : Int32)), (.int p1), (.int p2), (.int (5 : Int32)), (.int p4)]) (st := [(.int ((sh p1 8)).toInt8.toInt32)]) (c_ex l Z a0 hw (2 : Int32) p1 p2 (5 : Int32) p4 _) (lenOf pd_7 rfl) (hb hby at_123) (pc' := 126) rfl rfl rfl rfl (by decide) (W := 1) (Nat.le_of_eq rfl) (by decide) (by decide) (by decide) ?_
            intro T85 X85 e85
            refine gIcmpNe X85 hx (hb hby at_126) (pc' := 222) (by decide) (by decide) (pn := 129) rfl (fun (c126 : ¬ ((sh p1 8)).toInt8.toInt32 = (ex (2 : Int32) p1 p2 (5 : Int32) p4)) => ?_) (fun (c126 : ((sh p1 8)).toInt8.toInt32 = (ex (2 : Int32) p1 p2 (5 : Int32) p4)) => ?_)
            · exact absurd (show _ = ex 2 p1 p2 5 p4 from rfl) c126
            · refine gLoadA X85 hx (hb hby at_129) (pc' := 131) rfl rfl rfl ?_
              refine gIconst X85 hx (v := (3 : Int32)) (hb hby at_131) (pc' := 132) rfl rfl ?_
              refine gBaload X85 hx hZ e85 A1 (j := (3 : Int32)) (v := (.int (p1).toInt8.toInt32)) (by decide) (own_lt (by have : (3 : Int32).toInt = 3 := rfl; omega)) rfl (hb hby at_132) (pc' := 133) rfl ?_
              refine gIconst X85 hx (v := (3 : Int32)) (hb hby at_133) (pc' := 134) rfl rfl ?_
              refine gLoadIN X85 hx (hb hby at_134) (pc' := 135) rfl rfl ?_
              refine gLoadIN X85 hx (hb hby at_135) (pc' := 136) rfl rfl ?_
              refine gLoadI X85 hx (hb hby at_136) (pc' := 138) rfl rfl ?_
              refine gLoadI X85 hx (hb hby at_138) (pc' := 140) rfl rfl ?_
              refine gCallSJ X85 hx hZ (y := (⟨"com/example/anteroom/anteroom/PayloadWriterSetIntPinLaw", "expect", "(IIIII)B"⟩ : MethodName)) hown e85 (by rw [hml]; rfl) (hw _ (List.mem_of_getElem? (i := 59) rfl)) (hw _ (List.mem_of_getElem? (i := 60) rfl)) (hw _ (List.mem_of_getElem? (i := 61) rfl)) (hw _ (List.mem_of_getElem? (i := 62) rfl)) (by decide) (argsL := [(.int (3 : Int32)), (.int p1), (.int p2), (.int (5 : Int32)), (.int p4)]) (st := [(.int (p1).toInt8.toInt32)]) (c_ex l Z a0 hw (3 : Int32) p1 p2 (5 : Int32) p4 _) (lenOf pd_7 rfl) (hb hby at_140) (pc' := 143) rfl rfl rfl rfl (by decide) (W := 1) (Nat.le_of_eq rfl) (by decide) (by decide) (by decide) ?_
              intro T86 X86 e86
              refine gIcmpNe X86 hx (hb hby at_143) (pc' := 222) (by decide) (by decide) (pn := 146) rfl (fun (c143 : ¬ (p1).toInt8.toInt32 = (ex (3 : Int32) p1 p2 (5 : Int32) p4)) => ?_) (fun (c143 : (p1).toInt8.toInt32 = (ex (3 : Int32) p1 p2 (5 : Int32) p4)) => ?_)
              · exact absurd (show _ = ex 3 p1 p2 5 p4 from own_b3 _) c143
              · refine gLoadA X86 hx (hb hby at_146) (pc' := 148) rfl rfl rfl ?_
                refine gIconst X86 hx (v := (4 : Int32)) (hb hby at_148) (pc' := 149) rfl rfl ?_
                refine gBaload X86 hx hZ e86 A1 (j := (4 : Int32)) (v := (.int ((sh (sh p2 16) 8)).toInt8.toInt32)) (by decide) (own_lt (by have : (4 : Int32).toInt = 4 := rfl; omega)) rfl (hb hby at_149) (pc' := 150) rfl ?_
                refine gIconst X86 hx (v := (4 : Int32)) (hb hby at_150) (pc' := 151) rfl rfl ?_
                refine gLoadIN X86 hx (hb hby at_151) (pc' := 152) rfl rfl ?_
                refine gLoadIN X86 hx (hb hby at_152) (pc' := 153) rfl rfl ?_
                refine gLoadI X86 hx (hb hby at_153) (pc' := 155) rfl rfl ?_
                refine gLoadI X86 hx (hb hby at_155) (pc' := 157) rfl rfl ?_
                refine gCallSJ X86 hx hZ (y := (⟨"com/example/anteroom/anteroom/PayloadWriterSetIntPinLaw", "expect", "(IIIII)B"⟩ : MethodName)) hown e86 (by rw [hml]; rfl) (hw _ (List.mem_of_getElem? (i := 59) rfl)) (hw _ (List.mem_of_getElem? (i := 60) rfl)) (hw _ (List.mem_of_getElem? (i := 61) rfl)) (hw _ (List.mem_of_getElem? (i := 62) rfl)) (by decide) (argsL := [(.int (4 : Int32)), (.int p1), (.int p2), (.int (5 : Int32)), (.int p4)]) (st := [(.int ((sh (sh p2 16) 8)).toInt8.toInt32)]) (c_ex l Z a0 hw (4 : Int32) p1 p2 (5 : Int32) p4 _) (lenOf pd_7 rfl) (hb hby at_157) (pc' := 160) rfl rfl rfl rfl (by decide) (W := 1) (Nat.le_of_eq rfl) (by decide) (by decide) (by decide) ?_
                intro T87 X87 e87
                refine gIcmpNe X87 hx (hb hby at_160) (pc' := 222) (by decide) (by decide) (pn := 163) rfl (fun (c160 : ¬ ((sh (sh p2 16) 8)).toInt8.toInt32 = (ex (4 : Int32) p1 p2 (5 : Int32) p4)) => ?_) (fun (c160 : ((sh (sh p2 16) 8)).toInt8.toInt32 = (ex (4 : Int32) p1 p2 (5 : Int32) p4)) => ?_)
                · exact absurd (show _ = ex 4 p1 p2 5 p4 from own_b0 _) c160
                · refine gLoadA X87 hx (hb hby at_163) (pc' := 165) rfl rfl rfl ?_
                  refine gIconst X87 hx (v := (5 : Int32)) (hb hby at_165) (pc' := 166) rfl rfl ?_
                  refine gBaload X87 hx hZ e87 A1 (j := (5 : Int32)) (v := (.int ((sh p4 8)).toInt8.toInt32)) (by decide) (own_lt (by have : (5 : Int32).toInt = 5 := rfl; omega)) rfl (hb hby at_166) (pc' := 167) rfl ?_
                  refine gIconst X87 hx (v := (5 : Int32)) (hb hby at_167) (pc' := 168) rfl rfl ?_
                  refine gLoadIN X87 hx (hb hby at_168) (pc' := 169) rfl rfl ?_
                  refine gLoadIN X87 hx (hb hby at_169) (pc' := 170) rfl rfl ?_
                  refine gLoadI X87 hx (hb hby at_170) (pc' := 172) rfl rfl ?_
                  refine gLoadI X87 hx (hb hby at_172) (pc' := 174) rfl rfl ?_
                  refine gCallSJ X87 hx hZ (y := (⟨"com/example/anteroom/anteroom/PayloadWriterSetIntPinLaw", "expect", "(IIIII)B"⟩ : MethodName)) hown e87 (by rw [hml]; rfl) (hw _ (List.mem_of_getElem? (i := 59) rfl)) (hw _ (List.mem_of_getElem? (i := 60) rfl)) (hw _ (List.mem_of_getElem? (i := 61) rfl)) (hw _ (List.mem_of_getElem? (i := 62) rfl)) (by decide) (argsL := [(.int (5 : Int32)), (.int p1), (.int p2), (.int (5 : Int32)), (.int p4)]) (st := [(.int ((sh p4 8)).toInt8.toInt32)]) (c_ex l Z a0 hw (5 : Int32) p1 p2 (5 : Int32) p4 _) (lenOf pd_7 rfl) (hb hby at_174) (pc' := 177) rfl rfl rfl rfl (by decide) (W := 1) (Nat.le_of_eq rfl) (by decide) (by decide) (by decide) ?_
                  intro T88 X88 e88
                  refine gIcmpNe X88 hx (hb hby at_177) (pc' := 222) (by decide) (by decide) (pn := 180) rfl (fun (c177 : ¬ ((sh p4 8)).toInt8.toInt32 = (ex (5 : Int32) p1 p2 (5 : Int32) p4)) => ?_) (fun (c177 : ((sh p4 8)).toInt8.toInt32 = (ex (5 : Int32) p1 p2 (5 : Int32) p4)) => ?_)
                  · exact absurd (show _ = ex 5 p1 p2 5 p4 from rfl) c177
                  · refine gLoadA X88 hx (hb hby at_180) (pc' := 182) rfl rfl rfl ?_
                    refine gBipush X88 hx (v := (6 : Int32)) (hb hby at_182) (pc' := 184) rfl rfl ?_
                    refine gBaload X88 hx hZ e88 A1 (j := (6 : Int32)) (v := (.int (p4).toInt8.toInt32)) (by decide) (own_lt (by have : (6 : Int32).toInt = 6 := rfl; omega)) rfl (hb hby at_184) (pc' := 185) rfl ?_
                    refine gBipush X88 hx (v := (6 : Int32)) (hb hby at_185) (pc' := 187) rfl rfl ?_
                    refine gLoadIN X88 hx (hb hby at_187) (pc' := 188) rfl rfl ?_
                    refine gLoadIN X88 hx (hb hby at_188) (pc' := 189) rfl rfl ?_
                    refine gLoadI X88 hx (hb hby at_189) (pc' := 191) rfl rfl ?_
                    refine gLoadI X88 hx (hb hby at_191) (pc' := 193) rfl rfl ?_
                    refine gCallSJ X88 hx hZ (y := (⟨"com/example/anteroom/anteroom/PayloadWriterSetIntPinLaw", "expect", "(IIIII)B"⟩ : MethodName)) hown e88 (by rw [hml]; rfl) (hw _ (List.mem_of_getElem? (i := 59) rfl)) (hw _ (List.mem_of_getElem? (i := 60) rfl)) (hw _ (List.mem_of_getElem? (i := 61) rfl)) (hw _ (List.mem_of_getElem? (i := 62) rfl)) (by decide) (argsL := [(.int (6 : Int32)), (.int p1), (.int p2), (.int (5 : Int32)), (.int p4)]) (st := [(.int (p4).toInt8.toInt32)]) (c_ex l Z a0 hw (6 : Int32) p1 p2 (5 : Int32) p4 _) (lenOf pd_7 rfl) (hb hby at_193) (pc' := 196) rfl rfl rfl rfl (by decide) (W := 1) (Nat.le_of_eq rfl) (by decide) (by decide) (by decide) ?_
                    intro T89 X89 e89
                    refine gIcmpNe X89 hx (hb hby at_196) (pc' := 222) (by decide) (by decide) (pn := 199) rfl (fun (c196 : ¬ (p4).toInt8.toInt32 = (ex (6 : Int32) p1 p2 (5 : Int32) p4)) => ?_) (fun (c196 : (p4).toInt8.toInt32 = (ex (6 : Int32) p1 p2 (5 : Int32) p4)) => ?_)
                    · exact absurd (show _ = ex 6 p1 p2 5 p4 from rfl) c196
                    · refine gLoadA X89 hx (hb hby at_199) (pc' := 201) rfl rfl rfl ?_
                      refine gBipush X89 hx (v := (7 : Int32)) (hb hby at_201) (pc' := 203) rfl rfl ?_
                      refine gBaload X89 hx hZ e89 A1 (j := (7 : Int32)) (v := (.int (p2).toInt8.toInt32)) (by decide) (own_lt (by have : (7 : Int32).toInt = 7 := rfl; omega)) rfl (hb hby at_203) (pc' := 204) rfl ?_
                      refine gBipush X89 hx (v := (7 : Int32)) (hb hby at_204) (pc' := 206) rfl rfl ?_
                      refine gLoadIN X89 hx (hb hby at_206) (pc' := 207) rfl rfl ?_
                      refine gLoadIN X89 hx (hb hby at_207) (pc' := 208) rfl rfl ?_
                      refine gLoadI X89 hx (hb hby at_208) (pc' := 210) rfl rfl ?_
                      refine gLoadI X89 hx (hb hby at_210) (pc' := 212) rfl rfl ?_
                      refine gCallSJ X89 hx hZ (y := (⟨"com/example/anteroom/anteroom/PayloadWriterSetIntPinLaw", "expect", "(IIIII)B"⟩ : MethodName)) hown e89 (by rw [hml]; rfl) (hw _ (List.mem_of_getElem? (i := 59) rfl)) (hw _ (List.mem_of_getElem? (i := 60) rfl)) (hw _ (List.mem_of_getElem? (i := 61) rfl)) (hw _ (List.mem_of_getElem? (i := 62) rfl)) (by decide) (argsL := [(.int (7 : Int32)), (.int p1), (.int p2), (.int (5 : Int32)), (.int p4)]) (st := [(.int (p2).toInt8.toInt32)]) (c_ex l Z a0 hw (7 : Int32) p1 p2 (5 : Int32) p4 _) (lenOf pd_7 rfl) (hb hby at_212) (pc' := 215) rfl rfl rfl rfl (by decide) (W := 1) (Nat.le_of_eq rfl) (by decide) (by decide) (by decide) ?_
                      intro T90 X90 e90
                      refine gIcmpNe X90 hx (hb hby at_215) (pc' := 222) (by decide) (by decide) (pn := 218) rfl (fun (c215 : ¬ (p2).toInt8.toInt32 = (ex (7 : Int32) p1 p2 (5 : Int32) p4)) => ?_) (fun (c215 : (p2).toInt8.toInt32 = (ex (7 : Int32) p1 p2 (5 : Int32) p4)) => ?_)
                      · exact absurd (show _ = ex 7 p1 p2 5 p4 from own_b3 _) c215
                      · refine gIconst X90 hx (v := (1 : Int32)) (hb hby at_218) (pc' := 219) rfl rfl ?_
                        refine gGoto X90 hx (hb hby at_219) (pc' := 223) (by decide) (by decide) ?_
                        refine gStoreI X90 hx (hb hby at_223) (l' := #[.val (.int p0), .val (.int p1), .val (.int p2), .val (.int p3), .val (.int p4), .val (.int cap), .val (.int (5 : Int32)), .val (.ref b76), .val (.ref b'), .val (.int (1 : Int32)), .unset]) (pc' := 225) rfl rfl ?_
                        refine gLoadA X90 hx (hb hby at_225) (pc' := 227) rfl rfl rfl ?_
                        refine gLoadI X90 hx (hb hby at_227) (pc' := 229) rfl rfl ?_
                        refine gBaload X90 hx hZ e90 A1 (j := (5 : Int32)) (v := (.int ((sh p4 8)).toInt8.toInt32)) (by decide) (own_lt (by have : (5 : Int32).toInt = 5 := rfl; omega)) rfl (hb hby at_229) (pc' := 230) rfl ?_
                        refine gSipush X90 hx (v := (255 : Int32)) (hb hby at_230) (pc' := 233) rfl rfl ?_
                        refine gIand X90 hx (hb hby at_233) (pc' := 234) rfl ?_
                        refine gBipush X90 hx (v := (8 : Int32)) (hb hby at_234) (pc' := 236) rfl rfl ?_
                        refine gIshl X90 hx (hb hby at_236) (pc' := 237) rfl ?_
                        refine gLoadA X90 hx (hb hby at_237) (pc' := 239) rfl rfl rfl ?_
                        refine gLoadI X90 hx (hb hby at_239) (pc' := 241) rfl rfl ?_
                        refine gIconst X90 hx (v := (1 : Int32)) (hb hby at_241) (pc' := 242) rfl rfl ?_
                        refine gIadd X90 hx (hb hby at_242) (pc' := 243) rfl ?_
                        show Goes p e below _ T90 (mkF m 243 #[.val (.int p0), .val (.int p1), .val (.int p2), .val (.int p3), .val (.int p4), .val (.int cap), .val (.int (5 : Int32)), .val (.ref b76), .val (.ref b'), .val (.int (1 : Int32)), .unset] [(.int (6 : Int32)), (.ref b'), (.int ((((sh p4 8)).toInt8.toInt32 &&& (255 : Int32)) <<< ((8 : Int32) &&& 31)))])
                        refine gBaload X90 hx hZ e90 A1 (j := (6 : Int32)) (v := (.int (p4).toInt8.toInt32)) (by decide) (own_lt (by have : (6 : Int32).toInt = 6 := rfl; omega)) rfl (hb hby at_243) (pc' := 244) rfl ?_
                        refine gSipush X90 hx (v := (255 : Int32)) (hb hby at_244) (pc' := 247) rfl rfl ?_
                        refine gIand X90 hx (hb hby at_247) (pc' := 248) rfl ?_
                        refine gIor X90 hx (hb hby at_248) (pc' := 249) rfl ?_
                        refine gStoreI X90 hx (hb hby at_249) (l' := #[.val (.int p0), .val (.int p1), .val (.int p2), .val (.int p3), .val (.int p4), .val (.int cap), .val (.int (5 : Int32)), .val (.ref b76), .val (.ref b'), .val (.int (1 : Int32)), .val (.int (((((sh p4 8)).toInt8.toInt32 &&& (255 : Int32)) <<< ((8 : Int32) &&& 31)) ||| ((p4).toInt8.toInt32 &&& (255 : Int32))))]) (pc' := 251) rfl rfl ?_
                        refine gLoadI X90 hx (hb hby at_251) (pc' := 253) rfl rfl ?_
                        refine gIfEqT X90 hx (hb hby at_253) (pc' := 270) (by decide) (by decide) (pn := 256) rfl (fun (c253 : (1 : Int) = (0 : Int)) => ?_) (fun (c253 : ¬ (1 : Int) = (0 : Int)) => ?_)
                        · exact absurd c253 (by decide)
                        · refine gLoadI X90 hx (hb hby at_256) (pc' := 258) rfl rfl ?_
                          refine gLoadI X90 hx (hb hby at_258) (pc' := 260) rfl rfl ?_
                          refine gLdc X90 hx hZ hown (hw _ (List.mem_of_getElem? (i := 63) rfl)) (hb hby at_260) (pc' := 262) rfl ?_
                          refine gIand X90 hx (hb hby at_262) (pc' := 263) rfl ?_
                          refine gIcmpNe X90 hx (hb hby at_263) (pc' := 270) (by decide) (by decide) (pn := 266) rfl (fun (c263 : ¬ (((((sh p4 8)).toInt8.toInt32 &&& (255 : Int32)) <<< ((8 : Int32) &&& 31)) ||| ((p4).toInt8.toInt32 &&& (255 : Int32))) = (p4 &&& (65535 : Int32))) => ?_) (fun (c263 : (((((sh p4 8)).toInt8.toInt32 &&& (255 : Int32)) <<< ((8 : Int32) &&& 31)) ||| ((p4).toInt8.toInt32 &&& (255 : Int32))) = (p4 &&& (65535 : Int32))) => ?_)
                          · exact absurd (own_rd p4) c263
                          · refine gIconst X90 hx (v := (1 : Int32)) (hb hby at_266) (pc' := 267) rfl rfl ?_
                            refine gGoto X90 hx (hb hby at_267) (pc' := 271) (by decide) (by decide) ?_
                            exact gRetN X90 hx hlk hret (by simp) (hb hby at_271) (w := (1 : Int32)) rfl (by decide) (by decide) (⟨rfl, N80⟩)
      · exact absurd c73 (by omega)
    · exact absurd c63 (by decide)
  · refine gStoreI X0 hx (hb hby at_13) (l' := #[.val (.int p0), .val (.int p1), .val (.int p2), .val (.int p3), .val (.int p4), .val (.int cap), .val (.int (6 : Int32)), .unset, .unset, .unset, .unset]) (pc' := 15) rfl rfl ?_
    refine gNew X0 hx hZ hown (hw _ (List.mem_of_getElem? (i := 1) rfl)) (hw _ (List.mem_of_getElem? (i := 2) rfl)) (hw _ (List.mem_of_getElem? (i := 3) rfl)) e0 (hb hby at_15) (pc' := 18) rfl (by decide) (by decide) (fun T91 h91 b91 X91 e91 g91 E91 A91 D91 => ?_)
    have sz_b91 : h0.size ≤ b91 := Nat.le_trans (Nat.le_refl _) (Nat.le_of_eq g91.symm)
    have zs91 : h0.size ≤ h91.size := Nat.le_trans (Nat.le_refl _) E91.1
    have F91_octets : Fld Z h91 b91 "com/example/anteroom/anteroom/PayloadWriter" "octets" "[B" .null := D91 (Or.inl (hw _ (List.mem_of_getElem? (i := 12) rfl))) (ty := (.array .byte)) (by decide)
    have F91_length : Fld Z h91 b91 "com/example/anteroom/anteroom/PayloadWriter" "length" "I" (.int (0 : Int32)) := D91 (Or.inl (hw _ (List.mem_of_getElem? (i := 28) rfl))) (ty := .int) (by decide)
    refine gDup X91 hx (hb hby at_18) (pc' := 19) rfl rfl ?_
    refine gLoadI X91 hx (hb hby at_19) (pc' := 21) rfl rfl ?_
    refine gCallI X91 hx hZ (y := (⟨"com/example/anteroom/anteroom/PayloadWriter", "<init>", "(I)V"⟩ : MethodName)) rfl hown e91 (by rw [hml]; rfl) (hw _ (List.mem_of_getElem? (i := 4) rfl)) (hw _ (List.mem_of_getElem? (i := 5) rfl)) (hw _ (List.mem_of_getElem? (i := 3) rfl)) (hw _ (List.mem_of_getElem? (i := 6) rfl)) (by decide) (argsL := [(.int cap)]) (st := [(.ref b91)]) (c_init l Z a0 hw b91 cap h0.size h91 sz_b91 zs91 hcap.1 hcap.2 A91 F91_octets F91_length) (lenOf pd_4 rfl) (hb hby at_21) (pc' := 24) rfl rfl (by decide) (W := 1) (Nat.le_of_eq rfl) (by decide) (by decide) (by decide) ?_
    intro T92 v92 L92 X92 hQ92
    obtain ⟨rfl, Nq92, hB92⟩ := hQ92
    have N92 := Fr.app (Fr.nil h0.size) Nq92
    have hb92 := hB92
    obtain ⟨_, _, _, _, _, _, _, _, E92, -⟩ := hb92
    refine gStoreA X92 hx (hb hby at_24) (l' := #[.val (.int p0), .val (.int p1), .val (.int p2), .val (.int p3), .val (.int p4), .val (.int cap), .val (.int (6 : Int32)), .val (.ref b91), .unset, .unset, .unset]) (pc' := 26) rfl rfl rfl ?_
    refine gLoadA X92 hx (hb hby at_26) (pc' := 28) rfl rfl rfl ?_
    refine gLoadIN X92 hx (hb hby at_28) (pc' := 29) rfl rfl ?_
    refine gCallV X92 hx hZ (y := (⟨"com/example/anteroom/anteroom/PayloadWriter", "writeInt32", "(I)Lcom/example/anteroom/anteroom/PayloadWriter;"⟩ : MethodName)) hown rfl (by rw [hml]; rfl) E92 (hw _ (List.mem_of_getElem? (i := 13) rfl)) (hw _ (List.mem_of_getElem? (i := 14) rfl)) (hw _ (List.mem_of_getElem? (i := 16) rfl)) (hw _ (List.mem_of_getElem? (i := 15) rfl)) (hw _ (List.mem_of_getElem? (i := 3) rfl)) (hw _ (List.mem_of_getElem? (i := 17) rfl)) (by decide) (argsL := [(.int p1)]) (st := []) (c_w32 l Z a0 hw b91 p1 [] h0.size T92.heap hB92 (by simp)) (lenOf pd_3 rfl) (hb hby at_29) (pc' := 32) rfl rfl (by decide) (W := 0) (Nat.le_of_eq rfl) (by decide) (by decide) (by decide) ?_
    intro T93 v93 L93 X93 hQ93
    obtain ⟨rfl, Nq93, hB93⟩ := hQ93
    have N93 := Fr.app N92 Nq93
    have hb93 := hB93
    obtain ⟨_, _, _, _, _, _, _, _, E93, -⟩ := hb93
    refine gPop X93 hx (hb hby at_32) (pc' := 33) rfl rfl ?_
    refine gLoadA X93 hx (hb hby at_33) (pc' := 35) rfl rfl rfl ?_
    refine gLoadIN X93 hx (hb hby at_35) (pc' := 36) rfl rfl ?_
    refine gCallV X93 hx hZ (y := (⟨"com/example/anteroom/anteroom/PayloadWriter", "writeInt32", "(I)Lcom/example/anteroom/anteroom/PayloadWriter;"⟩ : MethodName)) hown rfl (by rw [hml]; rfl) E93 (hw _ (List.mem_of_getElem? (i := 13) rfl)) (hw _ (List.mem_of_getElem? (i := 14) rfl)) (hw _ (List.mem_of_getElem? (i := 16) rfl)) (hw _ (List.mem_of_getElem? (i := 15) rfl)) (hw _ (List.mem_of_getElem? (i := 3) rfl)) (hw _ (List.mem_of_getElem? (i := 17) rfl)) (by decide) (argsL := [(.int p2)]) (st := []) (c_w32 l Z a0 hw b91 p2 [byteOf (sh (sh p1 16) 8), byteOf (sh p1 16), byteOf (sh p1 8), byteOf p1] h0.size T93.heap hB93 (by simp)) (lenOf pd_3 rfl) (hb hby at_36) (pc' := 39) rfl rfl (by decide) (W := 0) (Nat.le_of_eq rfl) (by decide) (by decide) (by decide) ?_
    intro T94 v94 L94 X94 hQ94
    obtain ⟨rfl, Nq94, hB94⟩ := hQ94
    have N94 := Fr.app N93 Nq94
    have hb94 := hB94
    obtain ⟨_, _, _, _, _, _, _, _, E94, -⟩ := hb94
    refine gPop X94 hx (hb hby at_39) (pc' := 40) rfl rfl ?_
    refine gLoadA X94 hx (hb hby at_40) (pc' := 42) rfl rfl rfl ?_
    refine gLoadI X94 hx (hb hby at_42) (pc' := 44) rfl rfl ?_
    refine gLoadI X94 hx (hb hby at_44) (pc' := 46) rfl rfl ?_
    refine gCallV X94 hx hZ (y := (⟨"com/example/anteroom/anteroom/PayloadWriter", "setInt", "(II)V"⟩ : MethodName)) hown rfl (by rw [hml]; rfl) E94 (hw _ (List.mem_of_getElem? (i := 44) rfl)) (hw _ (List.mem_of_getElem? (i := 45) rfl)) (hw _ (List.mem_of_getElem? (i := 47) rfl)) (hw _ (List.mem_of_getElem? (i := 46) rfl)) (hw _ (List.mem_of_getElem? (i := 3) rfl)) (hw _ (List.mem_of_getElem? (i := 48) rfl)) (by decide) (argsL := [(.int (6 : Int32)), (.int p4)]) (st := []) (c_set l Z a0 hw b91 (6) p4 6 [byteOf (sh (sh p1 16) 8), byteOf (sh p1 16), byteOf (sh p1 8), byteOf p1, byteOf (sh (sh p2 16) 8), byteOf (sh p2 16), byteOf (sh p2 8), byteOf p2] h0.size T94.heap hB94 rfl (by simp) (by simp)) (lenOf pd_6 rfl) (hb hby at_46) (pc' := 49) rfl rfl (by decide) (W := 0) (Nat.le_of_eq rfl) (by decide) (by decide) (by decide) ?_
    intro T95 v95 L95 X95 hQ95
    obtain ⟨rfl, Nq95, hB95⟩ := hQ95
    have N95 := Fr.app N94 Nq95
    replace hB95 : Buf Z T95.heap h0.size b91 [byteOf (sh (sh p1 16) 8), byteOf (sh p1 16), byteOf (sh p1 8), byteOf p1, byteOf (sh (sh p2 16) 8), byteOf (sh p2 16), byteOf (sh p4 8), byteOf p4] 0 := hB95
    obtain ⟨b', ck', n', k', r', -, -, -, E1, F1, F2, A1, hk', hn', -, -⟩ := hB95
    simp only [List.length_cons, List.length_nil] at hk' hn'
    obtain rfl : k' = 8 := Int32.toInt_inj.mp hk'
    refine gLoadA X95 hx (hb hby at_49) (pc' := 51) rfl rfl rfl ?_
    refine gCallVJ X95 hx hZ (y := (⟨"com/example/anteroom/anteroom/PayloadWriter", "array", "()[B"⟩ : MethodName)) hown rfl (by rw [hml]; rfl) E1 (hw _ (List.mem_of_getElem? (i := 49) rfl)) (hw _ (List.mem_of_getElem? (i := 50) rfl)) (hw _ (List.mem_of_getElem? (i := 52) rfl)) (hw _ (List.mem_of_getElem? (i := 51) rfl)) (hw _ (List.mem_of_getElem? (i := 3) rfl)) (hw _ (List.mem_of_getElem? (i := 53) rfl)) (by decide) (argsL := []) (st := []) (c_arr l Z a0 hw b91 b' 0 _ F1) (lenOf pd_2 rfl) (hb hby at_51) (pc' := 54) rfl rfl rfl rfl (by decide) (W := 0) (Nat.le_of_eq rfl) (by decide) (by decide) (by decide) ?_
    intro T96 X96 e96
    refine gStoreA X96 hx (hb hby at_54) (l' := #[.val (.int p0), .val (.int p1), .val (.int p2), .val (.int p3), .val (.int p4), .val (.int cap), .val (.int (6 : Int32)), .val (.ref b91), .val (.ref b'), .unset, .unset]) (pc' := 56) rfl rfl rfl ?_
    refine gLoadA X96 hx (hb hby at_56) (pc' := 58) rfl rfl rfl ?_
    refine gCallVJ X96 hx hZ (y := (⟨"com/example/anteroom/anteroom/PayloadWriter", "length", "()I"⟩ : MethodName)) hown e96 (by rw [hml]; rfl) E1 (hw _ (List.mem_of_getElem? (i := 54) rfl)) (hw _ (List.mem_of_getElem? (i := 55) rfl)) (hw _ (List.mem_of_getElem? (i := 57) rfl)) (hw _ (List.mem_of_getElem? (i := 56) rfl)) (hw _ (List.mem_of_getElem? (i := 3) rfl)) (hw _ (List.mem_of_getElem? (i := 58) rfl)) (by decide) (argsL := []) (st := []) (c_len l Z a0 hw b91 0 8 _ F2) (lenOf pd_0 rfl) (hb hby at_58) (pc' := 61) rfl rfl rfl rfl (by decide) (W := 0) (Nat.le_of_eq rfl) (by decide) (by decide) (by decide) ?_
    intro T97 X97 e97
    refine gBipush X97 hx (v := (8 : Int32)) (hb hby at_61) (pc' := 63) rfl rfl ?_
    refine gIcmpEqT X97 hx (hb hby at_63) (pc' := 68) (by decide) (by decide) (pn := 66) rfl (fun (c63 : (8 : Int) = (8 : Int)) => ?_) (fun (c63 : ¬ (8 : Int) = (8 : Int)) => ?_)
    · refine gLoadA X97 hx (hb hby at_68) (pc' := 70) rfl rfl rfl ?_
      refine gArrLen X97 hx hZ e97 A1 (hb hby at_70) (pc' := 71) rfl ?_
      refine gBipush X97 hx (v := (8 : Int32)) (hb hby at_71) (pc' := 73) rfl rfl ?_
      refine gIcmpGe X97 hx (hb hby at_73) (pc' := 78) (by decide) (by decide) (pn := 76) rfl (fun (c73 : (8 : Int) ≤ n'.toInt) => ?_) (fun (c73 : n'.toInt < (8 : Int)) => ?_)
      · refine gLoadA X97 hx (hb hby at_78) (pc' := 80) rfl rfl rfl ?_
        refine gIconst X97 hx (v := (0 : Int32)) (hb hby at_80) (pc' := 81) rfl rfl ?_
        refine gBaload X97 hx hZ e97 A1 (j := (0 : Int32)) (v := (.int ((sh (sh p1 16) 8)).toInt8.toInt32)) (by decide) (own_lt (by have : (0 : Int32).toInt = 0 := rfl; omega)) rfl (hb hby at_81) (pc' := 82) rfl ?_
        refine gIconst X97 hx (v := (0 : Int32)) (hb hby at_82) (pc' := 83) rfl rfl ?_
        refine gLoadIN X97 hx (hb hby at_83) (pc' := 84) rfl rfl ?_
        refine gLoadIN X97 hx (hb hby at_84) (pc' := 85) rfl rfl ?_
        refine gLoadI X97 hx (hb hby at_85) (pc' := 87) rfl rfl ?_
        refine gLoadI X97 hx (hb hby at_87) (pc' := 89) rfl rfl ?_
        refine gCallSJ X97 hx hZ (y := (⟨"com/example/anteroom/anteroom/PayloadWriterSetIntPinLaw", "expect", "(IIIII)B"⟩ : MethodName)) hown e97 (by rw [hml]; rfl) (hw _ (List.mem_of_getElem? (i := 59) rfl)) (hw _ (List.mem_of_getElem? (i := 60) rfl)) (hw _ (List.mem_of_getElem? (i := 61) rfl)) (hw _ (List.mem_of_getElem? (i := 62) rfl)) (by decide) (argsL := [(.int (0 : Int32)), (.int p1), (.int p2), (.int (6 : Int32)), (.int p4)]) (st := [(.int ((sh (sh p1 16) 8)).toInt8.toInt32)]) (c_ex l Z a0 hw (0 : Int32) p1 p2 (6 : Int32) p4 _) (lenOf pd_7 rfl) (hb hby at_89) (pc' := 92) rfl rfl rfl rfl (by decide) (W := 1) (Nat.le_of_eq rfl) (by decide) (by decide) (by decide) ?_
        intro T98 X98 e98
        refine gIcmpNe X98 hx (hb hby at_92) (pc' := 222) (by decide) (by decide) (pn := 95) rfl (fun (c92 : ¬ ((sh (sh p1 16) 8)).toInt8.toInt32 = (ex (0 : Int32) p1 p2 (6 : Int32) p4)) => ?_) (fun (c92 : ((sh (sh p1 16) 8)).toInt8.toInt32 = (ex (0 : Int32) p1 p2 (6 : Int32) p4)) => ?_)
        · exact absurd (show _ = ex 0 p1 p2 6 p4 from own_b0 _) c92
        · refine gLoadA X98 hx (hb hby at_95) (pc' := 97) rfl rfl rfl ?_
          refine gIconst X98 hx (v := (1 : Int32)) (hb hby at_97) (pc' := 98) rfl rfl ?_
          refine gBaload X98 hx hZ e98 A1 (j := (1 : Int32)) (v := (.int ((sh p1 16)).toInt8.toInt32)) (by decide) (own_lt (by have : (1 : Int32).toInt = 1 := rfl; omega)) rfl (hb hby at_98) (pc' := 99) rfl ?_
          refine gIconst X98 hx (v := (1 : Int32)) (hb hby at_99) (pc' := 100) rfl rfl ?_
          refine gLoadIN X98 hx (hb hby at_100) (pc' := 101) rfl rfl ?_
          refine gLoadIN X98 hx (hb hby at_101) (pc' := 102) rfl rfl ?_
          refine gLoadI X98 hx (hb hby at_102) (pc' := 104) rfl rfl ?_
          refine gLoadI X98 hx (hb hby at_104) (pc' := 106) rfl rfl ?_
          refine gCallSJ X98 hx hZ (y := (⟨"com/example/anteroom/anteroom/PayloadWriterSetIntPinLaw", "expect", "(IIIII)B"⟩ : MethodName)) hown e98 (by rw [hml]; rfl) (hw _ (List.mem_of_getElem? (i := 59) rfl)) (hw _ (List.mem_of_getElem? (i := 60) rfl)) (hw _ (List.mem_of_getElem? (i := 61) rfl)) (hw _ (List.mem_of_getElem? (i := 62) rfl)) (by decide) (argsL := [(.int (1 : Int32)), (.int p1), (.int p2), (.int (6 : Int32)), (.int p4)]) (st := [(.int ((sh p1 16)).toInt8.toInt32)]) (c_ex l Z a0 hw (1 : Int32) p1 p2 (6 : Int32) p4 _) (lenOf pd_7 rfl) (hb hby at_106) (pc' := 109) rfl rfl rfl rfl (by decide) (W := 1) (Nat.le_of_eq rfl) (by decide) (by decide) (by decide) ?_
          intro T99 X99 e99
          refine gIcmpNe X99 hx (hb hby at_109) (pc' := 222) (by decide) (by decide) (pn := 112) rfl (fun (c109 : ¬ ((sh p1 16)).toInt8.toInt32 = (ex (1 : Int32) p1 p2 (6 : Int32) p4)) => ?_) (fun (c109 : ((sh p1 16)).toInt8.toInt32 = (ex (1 : Int32) p1 p2 (6 : Int32) p4)) => ?_)
          · exact absurd (show _ = ex 1 p1 p2 6 p4 from rfl) c109
          · refine gLoadA X99 hx (hb hby at_112) (pc' := 114) rfl rfl rfl ?_
            refine gIconst X99 hx (v := (2 : Int32)) (hb hby at_114) (pc' := 115) rfl rfl ?_
            refine gBaload X99 hx hZ e99 A1 (j := (2 : Int32)) (v := (.int ((sh p1 8)).toInt8.toInt32)) (by decide) (own_lt (by have : (2 : Int32).toInt = 2 := rfl; omega)) rfl (hb hby at_115) (pc' := 116) rfl ?_
            refine gIconst X99 hx (v := (2 : Int32)) (hb hby at_116) (pc' := 117) rfl rfl ?_
            refine gLoadIN X99 hx (hb hby at_117) (pc' := 118) rfl rfl ?_
            refine gLoadIN X99 hx (hb hby at_118) (pc' := 119) rfl rfl ?_
            refine gLoadI X99 hx (hb hby at_119) (pc' := 121) rfl rfl ?_
            refine gLoadI X99 hx (hb hby at_121) (pc' := 123) rfl rfl ?_
            refine gCallSJ X99 hx hZ (y := (⟨"com/example/anteroom/anteroom/PayloadWriterSetIntPinLaw", "expect", "(IIIII)B"⟩ : MethodName)) hown e99 (by rw [hml]; rfl) (hw _ (List.mem_of_getElem? (i := 59) rfl)) (hw _ (List.mem_of_getElem? (i := 60) rfl)) (hw _ (List.mem_of_getElem? (i := 61) rfl)) (hw _ (List.mem_of_getElem? (i := 62) rfl)) (by decide) (argsL := [(.int (2 : Int32)), (.int p1), (.int p2), (.int (6 : Int32)), (.int p4)]) (st := [(.int ((sh p1 8)).toInt8.toInt32)]) (c_ex l Z a0 hw (2 : Int32) p1 p2 (6 : Int32) p4 _) (lenOf pd_7 rfl) (hb hby at_123) (pc' := 126) rfl rfl rfl rfl (by decide) (W := 1) (Nat.le_of_eq rfl) (by decide) (by decide) (by decide) ?_
            intro T100 X100 e100
            refine gIcmpNe X100 hx (hb hby at_126) (pc' := 222) (by decide) (by decide) (pn := 129) rfl (fun (c126 : ¬ ((sh p1 8)).toInt8.toInt32 = (ex (2 : Int32) p1 p2 (6 : Int32) p4)) => ?_) (fun (c126 : ((sh p1 8)).toInt8.toInt32 = (ex (2 : Int32) p1 p2 (6 : Int32) p4)) => ?_)
            · exact absurd (show _ = ex 2 p1 p2 6 p4 from rfl) c126
            · refine gLoadA X100 hx (hb hby at_129) (pc' := 131) rfl rfl rfl ?_
              refine gIconst X100 hx (v := (3 : Int32)) (hb hby at_131) (pc' := 132) rfl rfl ?_
              refine gBaload X100 hx hZ e100 A1 (j := (3 : Int32)) (v := (.int (p1).toInt8.toInt32)) (by decide) (own_lt (by have : (3 : Int32).toInt = 3 := rfl; omega)) rfl (hb hby at_132) (pc' := 133) rfl ?_
              refine gIconst X100 hx (v := (3 : Int32)) (hb hby at_133) (pc' := 134) rfl rfl ?_
              refine gLoadIN X100 hx (hb hby at_134) (pc' := 135) rfl rfl ?_
              refine gLoadIN X100 hx (hb hby at_135) (pc' := 136) rfl rfl ?_
              refine gLoadI X100 hx (hb hby at_136) (pc' := 138) rfl rfl ?_
              refine gLoadI X100 hx (hb hby at_138) (pc' := 140) rfl rfl ?_
              refine gCallSJ X100 hx hZ (y := (⟨"com/example/anteroom/anteroom/PayloadWriterSetIntPinLaw", "expect", "(IIIII)B"⟩ : MethodName)) hown e100 (by rw [hml]; rfl) (hw _ (List.mem_of_getElem? (i := 59) rfl)) (hw _ (List.mem_of_getElem? (i := 60) rfl)) (hw _ (List.mem_of_getElem? (i := 61) rfl)) (hw _ (List.mem_of_getElem? (i := 62) rfl)) (by decide) (argsL := [(.int (3 : Int32)), (.int p1), (.int p2), (.int (6 : Int32)), (.int p4)]) (st := [(.int (p1).toInt8.toInt32)]) (c_ex l Z a0 hw (3 : Int32) p1 p2 (6 : Int32) p4 _) (lenOf pd_7 rfl) (hb hby at_140) (pc' := 143) rfl rfl rfl rfl (by decide) (W := 1) (Nat.le_of_eq rfl) (by decide) (by decide) (by decide) ?_
              intro T101 X101 e101
              refine gIcmpNe X101 hx (hb hby at_143) (pc' := 222) (by decide) (by decide) (pn := 146) rfl (fun (c143 : ¬ (p1).toInt8.toInt32 = (ex (3 : Int32) p1 p2 (6 : Int32) p4)) => ?_) (fun (c143 : (p1).toInt8.toInt32 = (ex (3 : Int32) p1 p2 (6 : Int32) p4)) => ?_)
              · exact absurd (show _ = ex 3 p1 p2 6 p4 from own_b3 _) c143
              · refine gLoadA X101 hx (hb hby at_146) (pc' := 148) rfl rfl rfl ?_
                refine gIconst X101 hx (v := (4 : Int32)) (hb hby at_148) (pc' := 149) rfl rfl ?_
                refine gBaload X101 hx hZ e101 A1 (j := (4 : Int32)) (v := (.int ((sh (sh p2 16) 8)).toInt8.toInt32)) (by decide) (own_lt (by have : (4 : Int32).toInt = 4 := rfl; omega)) rfl (hb hby at_149) (pc' := 150) rfl ?_
                refine gIconst X101 hx (v := (4 : Int32)) (hb hby at_150) (pc' := 151) rfl rfl ?_
                refine gLoadIN X101 hx (hb hby at_151) (pc' := 152) rfl rfl ?_
                refine gLoadIN X101 hx (hb hby at_152) (pc' := 153) rfl rfl ?_
                refine gLoadI X101 hx (hb hby at_153) (pc' := 155) rfl rfl ?_
                refine gLoadI X101 hx (hb hby at_155) (pc' := 157) rfl rfl ?_
                refine gCallSJ X101 hx hZ (y := (⟨"com/example/anteroom/anteroom/PayloadWriterSetIntPinLaw", "expect", "(IIIII)B"⟩ : MethodName)) hown e101 (by rw [hml]; rfl) (hw _ (List.mem_of_getElem? (i := 59) rfl)) (hw _ (List.mem_of_getElem? (i := 60) rfl)) (hw _ (List.mem_of_getElem? (i := 61) rfl)) (hw _ (List.mem_of_getElem? (i := 62) rfl)) (by decide) (argsL := [(.int (4 : Int32)), (.int p1), (.int p2), (.int (6 : Int32)), (.int p4)]) (st := [(.int ((sh (sh p2 16) 8)).toInt8.toInt32)]) (c_ex l Z a0 hw (4 : Int32) p1 p2 (6 : Int32) p4 _) (lenOf pd_7 rfl) (hb hby at_157) (pc' := 160) rfl rfl rfl rfl (by decide) (W := 1) (Nat.le_of_eq rfl) (by decide) (by decide) (by decide) ?_
                intro T102 X102 e102
                refine gIcmpNe X102 hx (hb hby at_160) (pc' := 222) (by decide) (by decide) (pn := 163) rfl (fun (c160 : ¬ ((sh (sh p2 16) 8)).toInt8.toInt32 = (ex (4 : Int32) p1 p2 (6 : Int32) p4)) => ?_) (fun (c160 : ((sh (sh p2 16) 8)).toInt8.toInt32 = (ex (4 : Int32) p1 p2 (6 : Int32) p4)) => ?_)
                · exact absurd (show _ = ex 4 p1 p2 6 p4 from own_b0 _) c160
                · refine gLoadA X102 hx (hb hby at_163) (pc' := 165) rfl rfl rfl ?_
                  refine gIconst X102 hx (v := (5 : Int32)) (hb hby at_165) (pc' := 166) rfl rfl ?_
                  refine gBaload X102 hx hZ e102 A1 (j := (5 : Int32)) (v := (.int ((sh p2 16)).toInt8.toInt32)) (by decide) (own_lt (by have : (5 : Int32).toInt = 5 := rfl; omega)) rfl (hb hby at_166) (pc' := 167) rfl ?_
                  refine gIconst X102 hx (v := (5 : Int32)) (hb hby at_167) (pc' := 168) rfl rfl ?_
                  refine gLoadIN X102 hx (hb hby at_168) (pc' := 169) rfl rfl ?_
                  refine gLoadIN X102 hx (hb hby at_169) (pc' := 170) rfl rfl ?_
                  refine gLoadI X102 hx (hb hby at_170) (pc' := 172) rfl rfl ?_
                  refine gLoadI X102 hx (hb hby at_172) (pc' := 174) rfl rfl ?_
                  refine gCallSJ X102 hx hZ (y := (⟨"com/example/anteroom/anteroom/PayloadWriterSetIntPinLaw", "expect", "(IIIII)B"⟩ : MethodName)) hown e102 (by rw [hml]; rfl) (hw _ (List.mem_of_getElem? (i := 59) rfl)) (hw _ (List.mem_of_getElem? (i := 60) rfl)) (hw _ (List.mem_of_getElem? (i := 61) rfl)) (hw _ (List.mem_of_getElem? (i := 62) rfl)) (by decide) (argsL := [(.int (5 : Int32)), (.int p1), (.int p2), (.int (6 : Int32)), (.int p4)]) (st := [(.int ((sh p2 16)).toInt8.toInt32)]) (c_ex l Z a0 hw (5 : Int32) p1 p2 (6 : Int32) p4 _) (lenOf pd_7 rfl) (hb hby at_174) (pc' := 177) rfl rfl rfl rfl (by decide) (W := 1) (Nat.le_of_eq rfl) (by decide) (by decide) (by decide) ?_
                  intro T103 X103 e103
                  refine gIcmpNe X103 hx (hb hby at_177) (pc' := 222) (by decide) (by decide) (pn := 180) rfl (fun (c177 : ¬ ((sh p2 16)).toInt8.toInt32 = (ex (5 : Int32) p1 p2 (6 : Int32) p4)) => ?_) (fun (c177 : ((sh p2 16)).toInt8.toInt32 = (ex (5 : Int32) p1 p2 (6 : Int32) p4)) => ?_)
                  · exact absurd (show _ = ex 5 p1 p2 6 p4 from rfl) c177
                  · refine gLoadA X103 hx (hb hby at_180) (pc' := 182) rfl rfl rfl ?_
                    refine gBipush X103 hx (v := (6 : Int32)) (hb hby at_182) (pc' := 184) rfl rfl ?_
                    refine gBaload X103 hx hZ e103 A1 (j := (6 : Int32)) (v := (.int ((sh p4 8)).toInt8.toInt32)) (by decide) (own_lt (by have : (6 : Int32).toInt = 6 := rfl; omega)) rfl (hb hby at_184) (pc' := 185) rfl ?_
                    refine gBipush X103 hx (v := (6 : Int32)) (hb hby at_185) (pc' := 187) rfl rfl ?_
                    refine gLoadIN X103 hx (hb hby at_187) (pc' := 188) rfl rfl ?_
                    refine gLoadIN X103 hx (hb hby at_188) (pc' := 189) rfl rfl ?_
                    refine gLoadI X103 hx (hb hby at_189) (pc' := 191) rfl rfl ?_
                    refine gLoadI X103 hx (hb hby at_191) (pc' := 193) rfl rfl ?_
                    refine gCallSJ X103 hx hZ (y := (⟨"com/example/anteroom/anteroom/PayloadWriterSetIntPinLaw", "expect", "(IIIII)B"⟩ : MethodName)) hown e103 (by rw [hml]; rfl) (hw _ (List.mem_of_getElem? (i := 59) rfl)) (hw _ (List.mem_of_getElem? (i := 60) rfl)) (hw _ (List.mem_of_getElem? (i := 61) rfl)) (hw _ (List.mem_of_getElem? (i := 62) rfl)) (by decide) (argsL := [(.int (6 : Int32)), (.int p1), (.int p2), (.int (6 : Int32)), (.int p4)]) (st := [(.int ((sh p4 8)).toInt8.toInt32)]) (c_ex l Z a0 hw (6 : Int32) p1 p2 (6 : Int32) p4 _) (lenOf pd_7 rfl) (hb hby at_193) (pc' := 196) rfl rfl rfl rfl (by decide) (W := 1) (Nat.le_of_eq rfl) (by decide) (by decide) (by decide) ?_
                    intro T104 X104 e104
                    refine gIcmpNe X104 hx (hb hby at_196) (pc' := 222) (by decide) (by decide) (pn := 199) rfl (fun (c196 : ¬ ((sh p4 8)).toInt8.toInt32 = (ex (6 : Int32) p1 p2 (6 : Int32) p4)) => ?_) (fun (c196 : ((sh p4 8)).toInt8.toInt32 = (ex (6 : Int32) p1 p2 (6 : Int32) p4)) => ?_)
                    · exact absurd (show _ = ex 6 p1 p2 6 p4 from rfl) c196
                    · refine gLoadA X104 hx (hb hby at_199) (pc' := 201) rfl rfl rfl ?_
                      refine gBipush X104 hx (v := (7 : Int32)) (hb hby at_201) (pc' := 203) rfl rfl ?_
                      refine gBaload X104 hx hZ e104 A1 (j := (7 : Int32)) (v := (.int (p4).toInt8.toInt32)) (by decide) (own_lt (by have : (7 : Int32).toInt = 7 := rfl; omega)) rfl (hb hby at_203) (pc' := 204) rfl ?_
                      refine gBipush X104 hx (v := (7 : Int32)) (hb hby at_204) (pc' := 206) rfl rfl ?_
                      refine gLoadIN X104 hx (hb hby at_206) (pc' := 207) rfl rfl ?_
                      refine gLoadIN X104 hx (hb hby at_207) (pc' := 208) rfl rfl ?_
                      refine gLoadI X104 hx (hb hby at_208) (pc' := 210) rfl rfl ?_
                      refine gLoadI X104 hx (hb hby at_210) (pc' := 212) rfl rfl ?_
                      refine gCallSJ X104 hx hZ (y := (⟨"com/example/anteroom/anteroom/PayloadWriterSetIntPinLaw", "expect", "(IIIII)B"⟩ : MethodName)) hown e104 (by rw [hml]; rfl) (hw _ (List.mem_of_getElem? (i := 59) rfl)) (hw _ (List.mem_of_getElem? (i := 60) rfl)) (hw _ (List.mem_of_getElem? (i := 61) rfl)) (hw _ (List.mem_of_getElem? (i := 62) rfl)) (by decide) (argsL := [(.int (7 : Int32)), (.int p1), (.int p2), (.int (6 : Int32)), (.int p4)]) (st := [(.int (p4).toInt8.toInt32)]) (c_ex l Z a0 hw (7 : Int32) p1 p2 (6 : Int32) p4 _) (lenOf pd_7 rfl) (hb hby at_212) (pc' := 215) rfl rfl rfl rfl (by decide) (W := 1) (Nat.le_of_eq rfl) (by decide) (by decide) (by decide) ?_
                      intro T105 X105 e105
                      refine gIcmpNe X105 hx (hb hby at_215) (pc' := 222) (by decide) (by decide) (pn := 218) rfl (fun (c215 : ¬ (p4).toInt8.toInt32 = (ex (7 : Int32) p1 p2 (6 : Int32) p4)) => ?_) (fun (c215 : (p4).toInt8.toInt32 = (ex (7 : Int32) p1 p2 (6 : Int32) p4)) => ?_)
                      · exact absurd (show _ = ex 7 p1 p2 6 p4 from rfl) c215
                      · refine gIconst X105 hx (v := (1 : Int32)) (hb hby at_218) (pc' := 219) rfl rfl ?_
                        refine gGoto X105 hx (hb hby at_219) (pc' := 223) (by decide) (by decide) ?_
                        refine gStoreI X105 hx (hb hby at_223) (l' := #[.val (.int p0), .val (.int p1), .val (.int p2), .val (.int p3), .val (.int p4), .val (.int cap), .val (.int (6 : Int32)), .val (.ref b91), .val (.ref b'), .val (.int (1 : Int32)), .unset]) (pc' := 225) rfl rfl ?_
                        refine gLoadA X105 hx (hb hby at_225) (pc' := 227) rfl rfl rfl ?_
                        refine gLoadI X105 hx (hb hby at_227) (pc' := 229) rfl rfl ?_
                        refine gBaload X105 hx hZ e105 A1 (j := (6 : Int32)) (v := (.int ((sh p4 8)).toInt8.toInt32)) (by decide) (own_lt (by have : (6 : Int32).toInt = 6 := rfl; omega)) rfl (hb hby at_229) (pc' := 230) rfl ?_
                        refine gSipush X105 hx (v := (255 : Int32)) (hb hby at_230) (pc' := 233) rfl rfl ?_
                        refine gIand X105 hx (hb hby at_233) (pc' := 234) rfl ?_
                        refine gBipush X105 hx (v := (8 : Int32)) (hb hby at_234) (pc' := 236) rfl rfl ?_
                        refine gIshl X105 hx (hb hby at_236) (pc' := 237) rfl ?_
                        refine gLoadA X105 hx (hb hby at_237) (pc' := 239) rfl rfl rfl ?_
                        refine gLoadI X105 hx (hb hby at_239) (pc' := 241) rfl rfl ?_
                        refine gIconst X105 hx (v := (1 : Int32)) (hb hby at_241) (pc' := 242) rfl rfl ?_
                        refine gIadd X105 hx (hb hby at_242) (pc' := 243) rfl ?_
                        show Goes p e below _ T105 (mkF m 243 #[.val (.int p0), .val (.int p1), .val (.int p2), .val (.int p3), .val (.int p4), .val (.int cap), .val (.int (6 : Int32)), .val (.ref b91), .val (.ref b'), .val (.int (1 : Int32)), .unset] [(.int (7 : Int32)), (.ref b'), (.int ((((sh p4 8)).toInt8.toInt32 &&& (255 : Int32)) <<< ((8 : Int32) &&& 31)))])
                        refine gBaload X105 hx hZ e105 A1 (j := (7 : Int32)) (v := (.int (p4).toInt8.toInt32)) (by decide) (own_lt (by have : (7 : Int32).toInt = 7 := rfl; omega)) rfl (hb hby at_243) (pc' := 244) rfl ?_
                        refine gSipush X105 hx (v := (255 : Int32)) (hb hby at_244) (pc' := 247) rfl rfl ?_
                        refine gIand X105 hx (hb hby at_247) (pc' := 248) rfl ?_
                        refine gIor X105 hx (hb hby at_248) (pc' := 249) rfl ?_
                        refine gStoreI X105 hx (hb hby at_249) (l' := #[.val (.int p0), .val (.int p1), .val (.int p2), .val (.int p3), .val (.int p4), .val (.int cap), .val (.int (6 : Int32)), .val (.ref b91), .val (.ref b'), .val (.int (1 : Int32)), .val (.int (((((sh p4 8)).toInt8.toInt32 &&& (255 : Int32)) <<< ((8 : Int32) &&& 31)) ||| ((p4).toInt8.toInt32 &&& (255 : Int32))))]) (pc' := 251) rfl rfl ?_
                        refine gLoadI X105 hx (hb hby at_251) (pc' := 253) rfl rfl ?_
                        refine gIfEqT X105 hx (hb hby at_253) (pc' := 270) (by decide) (by decide) (pn := 256) rfl (fun (c253 : (1 : Int) = (0 : Int)) => ?_) (fun (c253 : ¬ (1 : Int) = (0 : Int)) => ?_)
                        · exact absurd c253 (by decide)
                        · refine gLoadI X105 hx (hb hby at_256) (pc' := 258) rfl rfl ?_
                          refine gLoadI X105 hx (hb hby at_258) (pc' := 260) rfl rfl ?_
                          refine gLdc X105 hx hZ hown (hw _ (List.mem_of_getElem? (i := 63) rfl)) (hb hby at_260) (pc' := 262) rfl ?_
                          refine gIand X105 hx (hb hby at_262) (pc' := 263) rfl ?_
                          refine gIcmpNe X105 hx (hb hby at_263) (pc' := 270) (by decide) (by decide) (pn := 266) rfl (fun (c263 : ¬ (((((sh p4 8)).toInt8.toInt32 &&& (255 : Int32)) <<< ((8 : Int32) &&& 31)) ||| ((p4).toInt8.toInt32 &&& (255 : Int32))) = (p4 &&& (65535 : Int32))) => ?_) (fun (c263 : (((((sh p4 8)).toInt8.toInt32 &&& (255 : Int32)) <<< ((8 : Int32) &&& 31)) ||| ((p4).toInt8.toInt32 &&& (255 : Int32))) = (p4 &&& (65535 : Int32))) => ?_)
                          · exact absurd (own_rd p4) c263
                          · refine gIconst X105 hx (v := (1 : Int32)) (hb hby at_266) (pc' := 267) rfl rfl ?_
                            refine gGoto X105 hx (hb hby at_267) (pc' := 271) (by decide) (by decide) ?_
                            exact gRetN X105 hx hlk hret (by simp) (hb hby at_271) (w := (1 : Int32)) rfl (by decide) (by decide) (⟨rfl, N95⟩)
      · exact absurd c73 (by omega)
    · exact absurd c63 (by decide)
set_option maxRecDepth 65536 in
set_option maxHeartbeats 40000000 in
theorem comes_1 {Post : Tables → Env → Array Value → State → Outcome → State → Prop} (hpost : ∀ tb e args s v u, (limb_1_1.after args s (.returned v) u = true ∧ limb_1_2.after args s (.returned v) u = true ∧ True) → FrameEnd s (.returned v) u (Jvm.fieldLocs frame_1_writes args s ++ Jvm.arrayLocs frame_1_arrays args s ++ Jvm.staticLocs frame_1_statics s) 24 128 → Post tb e args s (.returned v) u) :
    ArmFor flags0 classFile x code maxLocals ret World_1 tables_1 room_1 Calls_1 rest_1 Pre_1 Post := by
  intro l hfl _ _ p e ha hc hk s m args below hf hA hF happ hP
  obtain ⟨hcalls, hrest, hpre⟩ := hP
  obtain ⟨-, -, -, hnamed, -, -, -, hat⟩ := (Spec.applies_iff hf).mp happ
  obtain ⟨hg, hn⟩ := and_e (Cond.before_iff.mp (show (Jvm.Cond.and given_1 narrow_1).before args s = true from hpre))
  obtain ⟨hcount, hv⟩ := and_e hg
  obtain ⟨ha0, hv0⟩ := and_e hv
  obtain ⟨ha1, hv1⟩ := and_e hv0
  obtain ⟨ha2, hv2⟩ := and_e hv1
  obtain ⟨ha3, hv3⟩ := and_e hv2
  obtain ⟨w0, w1, w2, w3, w4, rfl⟩ : ∃ w0 w1 w2 w3 w4 : Value, args = #[w0, w1, w2, w3, w4] := by
    have hs : args.size = 5 := by simpa [Cond.value, given_1] using hcount
    obtain ⟨L⟩ := args
    match L, hs with
    | [w0, w1, w2, w3, w4], _ => exact ⟨w0, w1, w2, w3, w4, rfl⟩
  have hw := fun d (hd : d ∈ tables_1) => atoms_spec (ws := Jvm.Cond.code x code maxLocals ret :: tables_1) hat d (List.mem_cons_of_mem _ hd)
  have hfit : Fit s := fun {y c} hc i hi => by
    obtain ⟨ha, rfl⟩ := Array.getElem?_eq_some_iff.mp hc
    have q := List.all_eq_true.mp ((Array.all_eq_true_iff_forall_mem.mp hF) _ (Array.getElem_mem ha)) i (List.mem_range.mpr hi)
    simpa [Array.getElem?_eq_getElem hi] using q
  obtain ⟨i0, ei0⟩ := is_v ha0
  obtain rfl : w0 = (.int i0) := Option.some.inj ei0
  obtain ⟨i1, ei1⟩ := is_v ha1
  obtain rfl : w1 = (.int i1) := Option.some.inj ei1
  obtain ⟨i2, ei2⟩ := is_v ha2
  obtain rfl : w2 = (.int i2) := Option.some.inj ei2
  obtain ⟨i3, ei3⟩ := is_v ha3
  obtain rfl : w3 = (.int i3) := Option.some.inj ei3
  obtain ⟨i4, ei4⟩ := is_v hv3
  obtain rfl : w4 = (.int i4) := Option.some.inj ei4
  obtain ⟨n, o, h1, h2, h3, _, L, rfl, ⟨rfl, N⟩, hq⟩ := c_law l s _ hw i0 i1 i2 i3 i4 s.heap  p e ha hc hk s m _ below hf ((Spec.applies_iff_loose hf).mp happ).1 ⟨rfl, State.Warmed39.refl s, rfl⟩ trivial
  refine ⟨n, _, h1, h2, h3, hpost _ _ _ _ _ _ ⟨Cond.after_iff.mpr rfl, Cond.after_iff.mpr (eq_i res_at (Term.int_eval (1)) rfl), trivial⟩ ⟨hq.1, hq.2.1, (hq.2.2.sift fun y hy => Or.inr (N y hy)).mono (by decide) (by decide)⟩⟩
theorem main_1_1 : Claimed_1_1 := comes_1 fun _ _ _ _ _ _ h hF => ⟨h.1, hF⟩
theorem main_1_2 : Claimed_1_2 := comes_1 fun _ _ _ _ _ _ h hF => ⟨h.2.1, hF⟩
end Jvm.Pilot.@@N@@
namespace Jvm.Pilot.@@N@@
open Jvm Jvm.ClassFile Sem Op Lib Jvm.Free Jvm.Stand Jvm.Pilot.@@N@@.Jvm.D
/-! MADE BY PROGRAM (witnessworld.py) out of the Statement's table words and the real class files: 12 classes; the members and pool entries that the words name. The judged class is class 1, her method 2. -/
namespace start1
open Jvm.ClassFile
def u (s : String) : CpInfo := .utf8 (stringToUtf16 s)
/-- a pool by its gaps: so many unusable entries, then the entry; so many at the end -/
def gap : Nat → List CpInfo → List CpInfo
  | 0, r => r
  | n + 1, r => .unusable :: gap n r
def poolList (es : List (Nat × CpInfo)) (last : Nat) : List CpInfo := es.foldr (fun e r => gap e.1 (e.2 :: r)) (gap last [])
def pool (es : List (Nat × CpInfo)) (last : Nat) : Array CpInfo := ⟨poolList es last⟩
def fileOf (pool : Array CpInfo) (this : Nat) (attrs : Array Attribute := #[]) (ms : Array MethodInfo := #[]) (fl : Nat := 33) (sup : Nat := 0) (ifs : Array Nat := #[]) (fds : Array FieldInfo := #[]) : ClassFile where
  minorVersion := 0
  majorVersion := 65
  constantPool := pool
  accessFlags := fl
  thisClass := this
  superClass := sup
  interfaces := ifs
  fields := fds
  methods := ms
  attributes := attrs
def plain (name : String) (sup : Option ClassId) : Class where
  name := name
  kind := .ordinary
  loader := none
  accessFlags := 33
  super := sup
  interfaces := #[]
  cf := none
  fields := #[]
  methods := #[]
  instanceTypes := #[]
  staticTypes := #[]
  resolved := #[]
  callSites := []
  init := .initialized
  statics := none
  mirror := none

def pool0 : Array CpInfo := pool [(5, u "<init>"), (0, u "()V"), (1, .class_ 10), (1, u "java/lang/Object")] 113

def k0c0 : Code := { maxStack := 0, maxLocals := 1, code := object_method_1_code, exceptionTable := #[], attributes := #[] }
def k0m0 : Method := { name := "<init>", desc := "()V", sig := { parameters := [], returnType := none }, accessFlags := 1, code := some k0c0 }
/-- java/lang/Object -/
def k0 : Class := { plain "java/lang/Object" none with
  accessFlags := 33
  interfaces := #[]
  cf := some (fileOf pool0 8 #[] #[{ accessFlags := 1, nameIndex := 5, descriptorIndex := 6, attributes := #[] }] 33 0 #[] #[])
  fields := #[]
  methods := #[k0m0]
  instanceTypes := #[]
  staticTypes := #[]
  resolved := Array.replicate 124 none
  statics := none }

def pool1 : Array CpInfo := pool [(2, .class_ 4), (1, u "java/lang/Object"), (0, u "<init>"), (0, u "()V"), (0, .integer 2147483647), (0, .class_ 9), (0, u "com/example/anteroom/anteroom/PayloadWriter"), (0, .methodref 8 11), (0, .nameAndType 5 12), (0, u "(I)V"), (0, .methodref 8 14), (0, .nameAndType 15 16), (0, u "writeInt32"), (0, u "(I)Lcom/example/anteroom/anteroom/PayloadWriter;"), (0, .methodref 8 18), (0, .nameAndType 19 20), (0, u "setInt"), (0, u "(II)V"), (0, .methodref 8 22), (0, .nameAndType 23 24), (0, u "array"), (0, u "()[B"), (0, .methodref 8 26), (0, .nameAndType 27 28), (0, u "length"), (0, u "()I"), (0, .methodref 30 31), (0, .class_ 32), (0, .nameAndType 33 34), (0, u "com/example/anteroom/anteroom/PayloadWriterSetIntPinLaw"), (0, u "expect"), (0, u "(IIIII)B"), (0, .integer 65535), (3, u "law"), (0, u "(IIIII)Z")] 4

def k1m0 : Method := { name := "<init>", desc := "()V", sig := { parameters := [], returnType := none }, accessFlags := 1, code := none }
def k1c1 : Code := { maxStack := 5, maxLocals := 5, code := method_2_code, exceptionTable := #[], attributes := #[] }
def k1m1 : Method := { name := "expect", desc := "(IIIII)B", sig := { parameters := [.int, .int, .int, .int, .int], returnType := some .byte }, accessFlags := 10, code := some k1c1 }
def k1c2 : Code := { maxStack := 6, maxLocals := 11, code := code, exceptionTable := #[], attributes := #[] }
def k1m2 : Method := { name := "law", desc := "(IIIII)Z", sig := { parameters := [.int, .int, .int, .int, .int], returnType := some .boolean }, accessFlags := 9, code := some k1c2 }
/-- com/example/anteroom/anteroom/PayloadWriterSetIntPinLaw -/
def k1 : Class := { plain "com/example/anteroom/anteroom/PayloadWriterSetIntPinLaw" (some 0) with
  accessFlags := 49
  interfaces := #[]
  cf := some (fileOf pool1 30 #[] #[{ accessFlags := 1, nameIndex := 5, descriptorIndex := 6, attributes := #[] }, { accessFlags := 10, nameIndex := 33, descriptorIndex := 34, attributes := #[] }, { accessFlags := 9, nameIndex := 39, descriptorIndex := 40, attributes := #[] }] 49 2 #[] #[])
  fields := #[]
  methods := #[k1m0, k1m1, k1m2]
  instanceTypes := #[]
  staticTypes := #[]
  resolved := Array.replicate 45 none
  statics := none }

def pool2 : Array CpInfo := pool [(1, .methodref 2 3), (0, .class_ 4), (0, .nameAndType 5 6), (0, u "java/lang/Object"), (0, u "<init>"), (0, u "()V"), (0, .fieldref 8 9), (0, .class_ 10), (0, .nameAndType 11 12), (0, u "com/example/anteroom/anteroom/PayloadWriter"), (0, u "octets"), (0, u "[B"), (0, .methodref 8 14), (0, .nameAndType 15 16), (0, u "ensure"), (0, u "(I)V"), (0, .fieldref 8 18), (0, .nameAndType 19 20), (0, u "length"), (0, u "I"), (3, u "(I)Lcom/example/anteroom/anteroom/PayloadWriter;"), (0, .methodref 8 26), (0, .nameAndType 27 24), (0, u "writeInt"), (4, u "()I"), (20, .methodref 54 55), (0, .class_ 56), (0, .nameAndType 57 58), (0, u "java/lang/Math"), (0, u "max"), (0, u "(II)I"), (0, .methodref 60 61), (0, .class_ 62), (0, .nameAndType 63 64), (0, u "java/util/Arrays"), (0, u "copyOf"), (0, u "([BI)[B"), (5, u "writeInt32"), (9, u "setInt"), (0, u "(II)V"), (1, u "array"), (0, u "()[B")] 2

def k2c0 : Code := { maxStack := 2, maxLocals := 2, code := prog_13_method_1_code, exceptionTable := #[], attributes := #[] }
def k2m0 : Method := { name := "<init>", desc := "(I)V", sig := { parameters := [.int], returnType := none }, accessFlags := 0, code := some k2c0 }
def k2c1 : Code := { maxStack := 5, maxLocals := 2, code := prog_13_method_4_code, exceptionTable := #[], attributes := #[] }
def k2m1 : Method := { name := "writeInt", desc := "(I)Lcom/example/anteroom/anteroom/PayloadWriter;", sig := { parameters := [.int], returnType := some (.object "com/example/anteroom/anteroom/PayloadWriter") }, accessFlags := 0, code := some k2c1 }
def k2c2 : Code := { maxStack := 3, maxLocals := 2, code := prog_13_method_5_code, exceptionTable := #[], attributes := #[] }
def k2m2 : Method := { name := "writeInt32", desc := "(I)Lcom/example/anteroom/anteroom/PayloadWriter;", sig := { parameters := [.int], returnType := some (.object "com/example/anteroom/anteroom/PayloadWriter") }, accessFlags := 0, code := some k2c2 }
def k2c3 : Code := { maxStack := 4, maxLocals := 3, code := prog_13_method_10_code, exceptionTable := #[], attributes := #[] }
def k2m3 : Method := { name := "setInt", desc := "(II)V", sig := { parameters := [.int, .int], returnType := none }, accessFlags := 0, code := some k2c3 }
def k2c4 : Code := { maxStack := 1, maxLocals := 1, code := prog_13_method_12_code, exceptionTable := #[], attributes := #[] }
def k2m4 : Method := { name := "array", desc := "()[B", sig := { parameters := [], returnType := some (.array .byte) }, accessFlags := 0, code := some k2c4 }
def k2c5 : Code := { maxStack := 1, maxLocals := 1, code := prog_13_method_13_code, exceptionTable := #[], attributes := #[] }
def k2m5 : Method := { name := "length", desc := "()I", sig := { parameters := [], returnType := some .int }, accessFlags := 0, code := some k2c5 }
def k2c6 : Code := { maxStack := 5, maxLocals := 2, code := prog_13_method_14_code, exceptionTable := #[], attributes := #[] }
def k2m6 : Method := { name := "ensure", desc := "(I)V", sig := { parameters := [.int], returnType := none }, accessFlags := 2, code := some k2c6 }
/-- com/example/anteroom/anteroom/PayloadWriter -/
def k2 : Class := { plain "com/example/anteroom/anteroom/PayloadWriter" (some 0) with
  accessFlags := 48
  interfaces := #[]
  cf := some (fileOf pool2 8 #[] #[{ accessFlags := 0, nameIndex := 5, descriptorIndex := 16, attributes := #[] }, { accessFlags := 0, nameIndex := 27, descriptorIndex := 24, attributes := #[] }, { accessFlags := 0, nameIndex := 70, descriptorIndex := 24, attributes := #[] }, { accessFlags := 0, nameIndex := 80, descriptorIndex := 81, attributes := #[] }, { accessFlags := 0, nameIndex := 83, descriptorIndex := 84, attributes := #[] }, { accessFlags := 0, nameIndex := 19, descriptorIndex := 32, attributes := #[] }, { accessFlags := 2, nameIndex := 15, descriptorIndex := 16, attributes := #[] }] 48 2 #[] #[{ accessFlags := 2, nameIndex := 11, descriptorIndex := 12, attributes := #[] }, { accessFlags := 2, nameIndex := 19, descriptorIndex := 20, attributes := #[] }])
  fields := #[{ name := "octets", type := (.array .byte), accessFlags := 2, slot := 0, constantValue := 0 }, { name := "length", type := .int, accessFlags := 2, slot := 1, constantValue := 0 }]
  methods := #[k2m0, k2m1, k2m2, k2m3, k2m4, k2m5, k2m6]
  instanceTypes := #[(.array .byte), .int]
  staticTypes := #[]
  resolved := Array.replicate 87 none
  statics := none }

def pool3 : Array CpInfo := pool [(1, .class_ 2), (0, u "java/lang/Math"), (1, .class_ 6), (1, u "java/lang/Object"), (0, u "<init>"), (0, u "()V"), (89, .class_ 100), (1, u "java/lang/Math$RandomNumberGeneratorHolder"), (71, u "negativeZeroFloatBits"), (0, u "J"), (2, u "negativeZeroDoubleBits"), (21, u "max"), (2, u "min"), (43, u "$assertionsDisabled"), (0, u "Z"), (88, u "(II)I"), (2, u "twoToTheDoubleScaleDown"), (0, u "D"), (4, u "twoToTheDoubleScaleUp"), (9, u "E"), (3, u "PI"), (2, u "TAU"), (2, u "DEGREES_TO_RADIANS"), (0, u "RADIANS_TO_DEGREES")] 94

def k3m0 : Method := { name := "<init>", desc := "()V", sig := { parameters := [], returnType := none }, accessFlags := 2, code := none }
def k3c1 : Code := { maxStack := 2, maxLocals := 2, code := jdk_29_method_65_code, exceptionTable := #[], attributes := #[] }
def k3m1 : Method := { name := "max", desc := "(II)I", sig := { parameters := [.int, .int], returnType := some .int }, accessFlags := 9, code := some k3c1 }
def k3c2 : Code := { maxStack := 2, maxLocals := 2, code := jdk_29_method_69_code, exceptionTable := #[], attributes := #[] }
def k3m2 : Method := { name := "min", desc := "(II)I", sig := { parameters := [.int, .int], returnType := some .int }, accessFlags := 9, code := some k3c2 }
/-- java/lang/Math -/
def k3 : Class := { plain "java/lang/Math" (some 0) with
  accessFlags := 49
  interfaces := #[]
  cf := some (fileOf pool3 1 #[.nestMembers #[98]] #[{ accessFlags := 2, nameIndex := 7, descriptorIndex := 8, attributes := #[] }, { accessFlags := 9, nameIndex := 198, descriptorIndex := 335, attributes := #[] }, { accessFlags := 9, nameIndex := 201, descriptorIndex := 335, attributes := #[] }] 49 4 #[] #[{ accessFlags := 25, nameIndex := 354, descriptorIndex := 339, attributes := #[] }, { accessFlags := 25, nameIndex := 358, descriptorIndex := 339, attributes := #[] }, { accessFlags := 25, nameIndex := 361, descriptorIndex := 339, attributes := #[] }, { accessFlags := 26, nameIndex := 364, descriptorIndex := 339, attributes := #[] }, { accessFlags := 26, nameIndex := 365, descriptorIndex := 339, attributes := #[] }, { accessFlags := 26, nameIndex := 172, descriptorIndex := 173, attributes := #[] }, { accessFlags := 26, nameIndex := 176, descriptorIndex := 173, attributes := #[] }, { accessFlags := 8, nameIndex := 344, descriptorIndex := 339, attributes := #[] }, { accessFlags := 8, nameIndex := 338, descriptorIndex := 339, attributes := #[] }, { accessFlags := 4120, nameIndex := 245, descriptorIndex := 246, attributes := #[] }])
  fields := #[{ name := "E", type := .double, accessFlags := 25, slot := 0, constantValue := 0 }, { name := "PI", type := .double, accessFlags := 25, slot := 1, constantValue := 0 }, { name := "TAU", type := .double, accessFlags := 25, slot := 2, constantValue := 0 }, { name := "DEGREES_TO_RADIANS", type := .double, accessFlags := 26, slot := 3, constantValue := 0 }, { name := "RADIANS_TO_DEGREES", type := .double, accessFlags := 26, slot := 4, constantValue := 0 }, { name := "negativeZeroFloatBits", type := .long, accessFlags := 26, slot := 5, constantValue := 0 }, { name := "negativeZeroDoubleBits", type := .long, accessFlags := 26, slot := 6, constantValue := 0 }, { name := "twoToTheDoubleScaleUp", type := .double, accessFlags := 8, slot := 7, constantValue := 0 }, { name := "twoToTheDoubleScaleDown", type := .double, accessFlags := 8, slot := 8, constantValue := 0 }, { name := "$assertionsDisabled", type := .boolean, accessFlags := 4120, slot := 9, constantValue := 0 }]
  methods := #[k3m0, k3m1, k3m2]
  instanceTypes := #[]
  staticTypes := #[.double, .double, .double, .double, .double, .long, .long, .double, .double, .boolean]
  resolved := Array.replicate 460 none
  statics := none }

def pool4 : Array CpInfo := pool [(2, .class_ 4), (1, u "java/lang/Object"), (0, u "<init>"), (0, u "()V"), (7, .class_ 16), (1, u "java/util/Arrays"), (57, .class_ 76), (1, u "java/util/Arrays$NaturalOrder"), (36, .class_ 115), (1, u "java/util/Arrays$LegacyMergeSort"), (1, u "Z"), (32, .methodref 151 152), (0, .class_ 153), (0, .nameAndType 154 155), (0, u "java/lang/System"), (0, u "arraycopy"), (0, u "(Ljava/lang/Object;ILjava/lang/Object;II)V"), (146, u "copyOf"), (1, .methodref 305 306), (0, .class_ 307), (0, .nameAndType 308 309), (0, u "java/lang/Math"), (0, u "min"), (0, u "(II)I"), (65, .class_ 376), (0, u "java/util/Arrays$ArrayList"), (68, u "$assertionsDisabled"), (269, u "MIN_ARRAY_SORT_GRAN"), (0, u "I"), (2, u "INSERTIONSORT_THRESHOLD"), (149, u "([BI)[B"), (105, .class_ 976), (0, u "java/util/Arrays$ArrayItr")] 52

def k4m0 : Method := { name := "<init>", desc := "()V", sig := { parameters := [], returnType := none }, accessFlags := 2, code := none }
def k4c1 : Code := { maxStack := 6, maxLocals := 3, code := jdk_65_method_121_code, exceptionTable := #[], attributes := #[] }
def k4m1 : Method := { name := "copyOf", desc := "([BI)[B", sig := { parameters := [(.array .byte), .int], returnType := some (.array .byte) }, accessFlags := 9, code := some k4c1 }
/-- java/util/Arrays -/
def k4 : Class := { plain "java/util/Arrays" (some 0) with
  accessFlags := 49
  interfaces := #[]
  cf := some (fileOf pool4 14 #[.nestMembers #[975, 375, 113, 74]] #[{ accessFlags := 2, nameIndex := 5, descriptorIndex := 6, attributes := #[] }, { accessFlags := 9, nameIndex := 302, descriptorIndex := 869, attributes := #[] }] 49 2 #[] #[{ accessFlags := 26, nameIndex := 715, descriptorIndex := 716, attributes := #[] }, { accessFlags := 26, nameIndex := 719, descriptorIndex := 716, attributes := #[] }, { accessFlags := 4120, nameIndex := 445, descriptorIndex := 117, attributes := #[] }])
  fields := #[{ name := "MIN_ARRAY_SORT_GRAN", type := .int, accessFlags := 26, slot := 0, constantValue := 0 }, { name := "INSERTIONSORT_THRESHOLD", type := .int, accessFlags := 26, slot := 1, constantValue := 0 }, { name := "$assertionsDisabled", type := .boolean, accessFlags := 4120, slot := 2, constantValue := 0 }]
  methods := #[k4m0, k4m1]
  instanceTypes := #[]
  staticTypes := #[.int, .int, .boolean]
  resolved := Array.replicate 1029 none
  statics := none }

def pool5 : Array CpInfo := pool [(2, .class_ 4), (1, u "java/lang/Object"), (0, u "<init>"), (0, u "()V"), (1, .class_ 10), (1, u "java/lang/System"), (0, u "allowSecurityManager"), (0, u "I"), (16, u "cons"), (0, u "Ljava/io/Console;"), (77, .class_ 110), (1, u "java/lang/System$CallersHolder"), (43, u "initialErrStream"), (0, u "Ljava/io/PrintStream;"), (19, u "security"), (0, u "Ljava/lang/SecurityManager;"), (31, .class_ 209), (0, u "java/lang/System$1"), (7, u "props"), (0, u "Ljava/util/Properties;"), (2, u "lineSeparator"), (0, u "Ljava/lang/String;"), (96, .class_ 321), (1, u "java/lang/System$LoggerFinder"), (5, .class_ 328), (0, u "java/lang/System$Logger"), (67, u "err"), (2, u "out"), (91, u "notSupportedJnuEncoding"), (15, u "in"), (17, u "initialIn"), (0, u "Ljava/io/InputStream;"), (35, u "bootLayer"), (0, u "Ljava/lang/ModuleLayer;"), (99, .class_ 664), (0, u "java/lang/System$2"), (9, u "NEVER"), (2, u "MAYBE"), (49, u "arraycopy"), (0, u "(Ljava/lang/Object;ILjava/lang/Object;II)V"), (72, .class_ 802), (0, u "java/lang/System$Logger$Level")] 31

def k5m0 : Method := { name := "<init>", desc := "()V", sig := { parameters := [], returnType := none }, accessFlags := 2, code := none }
def k5m1 : Method := { name := "arraycopy", desc := "(Ljava/lang/Object;ILjava/lang/Object;II)V", sig := { parameters := [(.object "java/lang/Object"), .int, (.object "java/lang/Object"), .int, .int], returnType := none }, accessFlags := 265, code := none }
/-- java/lang/System -/
def k5 : Class := { plain "java/lang/System" (some 0) with
  accessFlags := 49
  interfaces := #[]
  cf := some (fileOf pool5 8 #[.nestMembers #[319, 327, 801, 108, 663, 208]] #[{ accessFlags := 2, nameIndex := 5, descriptorIndex := 6, attributes := #[] }, { accessFlags := 265, nameIndex := 727, descriptorIndex := 728, attributes := #[] }] 49 2 #[] #[{ accessFlags := 25, nameIndex := 507, descriptorIndex := 526, attributes := #[] }, { accessFlags := 25, nameIndex := 399, descriptorIndex := 155, attributes := #[] }, { accessFlags := 25, nameIndex := 396, descriptorIndex := 155, attributes := #[] }, { accessFlags := 10, nameIndex := 525, descriptorIndex := 526, attributes := #[] }, { accessFlags := 26, nameIndex := 674, descriptorIndex := 12, attributes := #[] }, { accessFlags := 26, nameIndex := 677, descriptorIndex := 12, attributes := #[] }, { accessFlags := 10, nameIndex := 11, descriptorIndex := 12, attributes := #[] }, { accessFlags := 74, nameIndex := 175, descriptorIndex := 176, attributes := #[] }, { accessFlags := 10, nameIndex := 491, descriptorIndex := 222, attributes := #[] }, { accessFlags := 74, nameIndex := 29, descriptorIndex := 30, attributes := #[] }, { accessFlags := 74, nameIndex := 154, descriptorIndex := 155, attributes := #[] }, { accessFlags := 10, nameIndex := 217, descriptorIndex := 218, attributes := #[] }, { accessFlags := 10, nameIndex := 221, descriptorIndex := 222, attributes := #[] }, { accessFlags := 8, nameIndex := 562, descriptorIndex := 563, attributes := #[] }])
  fields := #[{ name := "in", type := (.object "java/io/InputStream"), accessFlags := 25, slot := 0, constantValue := 0 }, { name := "out", type := (.object "java/io/PrintStream"), accessFlags := 25, slot := 1, constantValue := 0 }, { name := "err", type := (.object "java/io/PrintStream"), accessFlags := 25, slot := 2, constantValue := 0 }, { name := "initialIn", type := (.object "java/io/InputStream"), accessFlags := 10, slot := 3, constantValue := 0 }, { name := "NEVER", type := .int, accessFlags := 26, slot := 4, constantValue := 0 }, { name := "MAYBE", type := .int, accessFlags := 26, slot := 5, constantValue := 0 }, { name := "allowSecurityManager", type := .int, accessFlags := 10, slot := 6, constantValue := 0 }, { name := "security", type := (.object "java/lang/SecurityManager"), accessFlags := 74, slot := 7, constantValue := 0 }, { name := "notSupportedJnuEncoding", type := (.object "java/lang/String"), accessFlags := 10, slot := 8, constantValue := 0 }, { name := "cons", type := (.object "java/io/Console"), accessFlags := 74, slot := 9, constantValue := 0 }, { name := "initialErrStream", type := (.object "java/io/PrintStream"), accessFlags := 74, slot := 10, constantValue := 0 }, { name := "props", type := (.object "java/util/Properties"), accessFlags := 10, slot := 11, constantValue := 0 }, { name := "lineSeparator", type := (.object "java/lang/String"), accessFlags := 10, slot := 12, constantValue := 0 }, { name := "bootLayer", type := (.object "java/lang/ModuleLayer"), accessFlags := 8, slot := 13, constantValue := 0 }]
  methods := #[k5m0, k5m1]
  instanceTypes := #[]
  staticTypes := #[(.object "java/io/InputStream"), (.object "java/io/PrintStream"), (.object "java/io/PrintStream"), (.object "java/io/InputStream"), .int, .int, .int, (.object "java/lang/SecurityManager"), (.object "java/lang/String"), (.object "java/io/Console"), (.object "java/io/PrintStream"), (.object "java/util/Properties"), (.object "java/lang/String"), (.object "java/lang/ModuleLayer")]
  resolved := Array.replicate 834 none
  statics := none }

def pool6 : Array CpInfo := pool [(1, u "java/lang/Cloneable"), (0, .class_ 1), (0, u "java/lang/Object"), (0, .class_ 3)] 3

/-- java/lang/Cloneable -/
def k6 : Class := { plain "java/lang/Cloneable" (some 0) with
  accessFlags := 1537
  interfaces := #[]
  cf := some (fileOf pool6 2 #[] #[] 1537 4 #[] #[])
  fields := #[]
  methods := #[]
  instanceTypes := #[]
  staticTypes := #[]
  resolved := Array.replicate 8 none
  statics := none }

def pool7 : Array CpInfo := pool [(1, u "java/io/Serializable"), (0, .class_ 1), (0, u "java/lang/Object"), (0, .class_ 3)] 3

/-- java/io/Serializable -/
def k7 : Class := { plain "java/io/Serializable" (some 0) with
  accessFlags := 1537
  interfaces := #[]
  cf := some (fileOf pool7 2 #[] #[] 1537 4 #[] #[])
  fields := #[]
  methods := #[]
  instanceTypes := #[]
  staticTypes := #[]
  resolved := Array.replicate 8 none
  statics := none }

/-- the primitive byte -/
def k8 : Class := { plain "byte" none with kind := .primitive 'B', accessFlags := 0x411 }
/-- [B -/
def k9 : Class := { plain "[B" (some 0) with kind := .array 8 .byte, interfaces := #[6, 7], accessFlags := 1041 }

/-- the primitive int -/
def k10 : Class := { plain "int" none with kind := .primitive 'I', accessFlags := 0x411 }
/-- [I -/
def k11 : Class := { plain "[I" (some 0) with kind := .array 10 .int, interfaces := #[6, 7], accessFlags := 1041 }

def heap : Heap := #[]
def classes : Array Class := #[k0, k1, k2, k3, k4, k5, k6, k7, k8, k9, k10, k11]
def interned : List (Array UInt16 × Addr) := []
def slotsUsed : Nat := 0
def theMethod : MethodId := ⟨1, 2⟩
def args0 : Array Value := #[.int 5, .int 300, .int 17, .int 2, .int 3]
def aboutOver (below : List Frame) : State where
  vm := { classes := classes, interned := interned.toArray }
  heap := heap
  slotsUsed := slotsUsed
  threads := #[{ frames := .invoking theMethod args0 :: below }]
def below0 : List Frame := [.native { method := ⟨0, 0⟩, args := #[] }]
def about1 : State := aboutOver below0
def p0 : Program := .bare "" "" ""
def e0 : Env := launch0.env 0 0 0
theorem w_frames : about1.frames = Frame.invoking theMethod args0 :: below0 := rfl
set_option maxRecDepth 65536 in
theorem w_args : argsFit about1.vm theMethod args0 = true := by decide +kernel
set_option maxRecDepth 65536 in
theorem w_heap : heapFits about1 = true := by decide +kernel
set_option maxRecDepth 65536 in
theorem w_runnable : about1.curStatus? = some .runnable := by decide +kernel
set_option maxRecDepth 65536 in
theorem w_alone : about1.alone = true := by decide +kernel
set_option maxRecDepth 65536 in
theorem w_named : about1.methodNamed? x = some theMethod := by decide +kernel
set_option maxRecDepth 65536 in
theorem w_hears : about1.hears theMethod below0 = true := by decide +kernel
set_option maxRecDepth 65536 in
theorem w_ripe : about1.ripe theMethod args0 below0 = true := by decide +kernel
theorem w_running : about1.status = .running := rfl
set_option maxRecDepth 65536 in
theorem w_room : about1.hasRoom e0.platform room_1 = true :=
  launch0.hasRoom_least _ room_1 (by decide +kernel) (by decide +kernel) (by decide +kernel) (by decide +kernel) (by decide +kernel) (by decide +kernel)
theorem allAtoms_all (ts : List Jvm.Cond) (a : Array Jvm.Value) (st : Jvm.State) : (allAtoms ts).before a st = ts.all (fun c => c.before a st) := by
  induction ts with
  | nil => rfl
  | cons c t ih =>
    show (Jvm.Cond.and c (allAtoms t)).before a st = _
    rw [Jvm.Cond.before_and, ih, List.all_cons]
def words1 : List Jvm.Cond := Jvm.Cond.code x code maxLocals ret :: tables_1
/-- a 'code' word, met by the world's own term for the bytes: nothing is compared byte by byte -/
theorem code_word {y : MethodName} {bytes : ByteArray} {mx : Nat} {rt : Option FieldType} {a : Array Value} {s : State} {m : MethodId} {meth : Method} {c : Code} (h1 : s.methodNamed? y = some m) (h2 : s.vm.method? m = some meth) (h3 : meth.code = some c) (h4 : c.code = bytes)
    (h5 : (c.maxLocals == mx && c.exceptionTable.isEmpty && decide (c.maxStack ≤ mostOperands) && decide (meth.sig.returnType = rt) && !meth.locks && decide (parseMethodDescriptor y.desc = some meth.sig)) = true) : (Jvm.Cond.code y bytes mx rt).before a s = true := by
  simp only [Bool.and_eq_true, beq_iff_eq, Bool.not_eq_true', decide_eq_true_eq] at h5
  obtain ⟨⟨⟨⟨⟨g1, g2⟩, g3⟩, g4⟩, g5⟩, g6⟩ := h5
  simp [Cond.before, Cond.holds, Cond.value, h1, h2, h3, h4, g1, g2, g3, g4, g5, g6]
def isCode : Jvm.Cond → Bool
  | .code _ _ _ _ => true
  | _ => false
theorem all_split {L : List Jvm.Cond} {P : Jvm.Cond → Bool} (h1 : L.all (fun c => isCode c || P c) = true) (h2 : ∀ c ∈ L.filter isCode, P c = true) : L.all P = true := by
  refine List.all_eq_true.mpr fun c hc => ?_
  have h := List.all_eq_true.mp h1 c hc
  rcases Bool.eq_false_or_eq_true (isCode c) with hi | hi
  · exact h2 c (List.mem_filter.mpr ⟨hc, hi⟩)
  · simpa [hi] using h
set_option maxRecDepth 65536 in
theorem w_c0 : (Jvm.Cond.code x code maxLocals ret).before args0 about1 = true := code_word (m := ⟨1, 2⟩) (meth := k1m2) (c := k1c2) (by decide +kernel) rfl rfl rfl (by decide +kernel)
set_option maxRecDepth 65536 in
theorem w_c1 : (Jvm.Cond.code ({ cls := "com/example/anteroom/anteroom/PayloadWriter", name := "<init>", desc := "(I)V" } : Jvm.MethodName) prog_13_method_1_code (2 : Nat) (Option.none : Option Jvm.ClassFile.FieldType)).before args0 about1 = true := code_word (m := ⟨2, 0⟩) (meth := k2m0) (c := k2c0) (by decide +kernel) rfl rfl rfl (by decide +kernel)
set_option maxRecDepth 65536 in
theorem w_c2 : (Jvm.Cond.code ({ cls := "java/lang/Object", name := "<init>", desc := "()V" } : Jvm.MethodName) object_method_1_code (1 : Nat) (Option.none : Option Jvm.ClassFile.FieldType)).before args0 about1 = true := code_word (m := ⟨0, 0⟩) (meth := k0m0) (c := k0c0) (by decide +kernel) rfl rfl rfl (by decide +kernel)
set_option maxRecDepth 65536 in
theorem w_c3 : (Jvm.Cond.code ({ cls := "com/example/anteroom/anteroom/PayloadWriter", name := "writeInt32", desc := "(I)Lcom/example/anteroom/anteroom/PayloadWriter;" } : Jvm.MethodName) prog_13_method_5_code (2 : Nat) (Option.some (Jvm.ClassFile.FieldType.object "com/example/anteroom/anteroom/PayloadWriter"))).before args0 about1 = true := code_word (m := ⟨2, 2⟩) (meth := k2m2) (c := k2c2) (by decide +kernel) rfl rfl rfl (by decide +kernel)
set_option maxRecDepth 65536 in
theorem w_c4 : (Jvm.Cond.code ({ cls := "com/example/anteroom/anteroom/PayloadWriter", name := "writeInt", desc := "(I)Lcom/example/anteroom/anteroom/PayloadWriter;" } : Jvm.MethodName) prog_13_method_4_code (2 : Nat) (Option.some (Jvm.ClassFile.FieldType.object "com/example/anteroom/anteroom/PayloadWriter"))).before args0 about1 = true := code_word (m := ⟨2, 1⟩) (meth := k2m1) (c := k2c1) (by decide +kernel) rfl rfl rfl (by decide +kernel)
set_option maxRecDepth 65536 in
theorem w_c5 : (Jvm.Cond.code ({ cls := "com/example/anteroom/anteroom/PayloadWriter", name := "ensure", desc := "(I)V" } : Jvm.MethodName) prog_13_method_14_code (2 : Nat) (Option.none : Option Jvm.ClassFile.FieldType)).before args0 about1 = true := code_word (m := ⟨2, 6⟩) (meth := k2m6) (c := k2c6) (by decide +kernel) rfl rfl rfl (by decide +kernel)
set_option maxRecDepth 65536 in
theorem w_c6 : (Jvm.Cond.code ({ cls := "java/lang/Math", name := "max", desc := "(II)I" } : Jvm.MethodName) jdk_29_method_65_code (2 : Nat) (Option.some Jvm.ClassFile.FieldType.int)).before args0 about1 = true := code_word (m := ⟨3, 1⟩) (meth := k3m1) (c := k3c1) (by decide +kernel) rfl rfl rfl (by decide +kernel)
set_option maxRecDepth 65536 in
theorem w_c7 : (Jvm.Cond.code ({ cls := "java/util/Arrays", name := "copyOf", desc := "([BI)[B" } : Jvm.MethodName) jdk_65_method_121_code (3 : Nat) (Option.some (Jvm.ClassFile.FieldType.array Jvm.ClassFile.FieldType.byte))).before args0 about1 = true := code_word (m := ⟨4, 1⟩) (meth := k4m1) (c := k4c1) (by decide +kernel) rfl rfl rfl (by decide +kernel)
set_option maxRecDepth 65536 in
theorem w_c8 : (Jvm.Cond.code ({ cls := "java/lang/Math", name := "min", desc := "(II)I" } : Jvm.MethodName) jdk_29_method_69_code (2 : Nat) (Option.some Jvm.ClassFile.FieldType.int)).before args0 about1 = true := code_word (m := ⟨3, 2⟩) (meth := k3m2) (c := k3c2) (by decide +kernel) rfl rfl rfl (by decide +kernel)
set_option maxRecDepth 65536 in
theorem w_c9 : (Jvm.Cond.code ({ cls := "com/example/anteroom/anteroom/PayloadWriter", name := "setInt", desc := "(II)V" } : Jvm.MethodName) prog_13_method_10_code (3 : Nat) (Option.none : Option Jvm.ClassFile.FieldType)).before args0 about1 = true := code_word (m := ⟨2, 3⟩) (meth := k2m3) (c := k2c3) (by decide +kernel) rfl rfl rfl (by decide +kernel)
set_option maxRecDepth 65536 in
theorem w_c10 : (Jvm.Cond.code ({ cls := "com/example/anteroom/anteroom/PayloadWriter", name := "array", desc := "()[B" } : Jvm.MethodName) prog_13_method_12_code (1 : Nat) (Option.some (Jvm.ClassFile.FieldType.array Jvm.ClassFile.FieldType.byte))).before args0 about1 = true := code_word (m := ⟨2, 4⟩) (meth := k2m4) (c := k2c4) (by decide +kernel) rfl rfl rfl (by decide +kernel)
set_option maxRecDepth 65536 in
theorem w_c11 : (Jvm.Cond.code ({ cls := "com/example/anteroom/anteroom/PayloadWriter", name := "length", desc := "()I" } : Jvm.MethodName) prog_13_method_13_code (1 : Nat) (Option.some Jvm.ClassFile.FieldType.int)).before args0 about1 = true := code_word (m := ⟨2, 5⟩) (meth := k2m5) (c := k2c5) (by decide +kernel) rfl rfl rfl (by decide +kernel)
set_option maxRecDepth 65536 in
theorem w_c12 : (Jvm.Cond.code ({ cls := "com/example/anteroom/anteroom/PayloadWriterSetIntPinLaw", name := "expect", desc := "(IIIII)B" } : Jvm.MethodName) method_2_code (5 : Nat) (Option.some Jvm.ClassFile.FieldType.byte)).before args0 about1 = true := code_word (m := ⟨1, 1⟩) (meth := k1m1) (c := k1c1) (by decide +kernel) rfl rfl rfl (by decide +kernel)
def codes1 : List Jvm.Cond := [Jvm.Cond.code x code maxLocals ret, Jvm.Cond.code ({ cls := "com/example/anteroom/anteroom/PayloadWriter", name := "<init>", desc := "(I)V" } : Jvm.MethodName) prog_13_method_1_code (2 : Nat) (Option.none : Option Jvm.ClassFile.FieldType), Jvm.Cond.code ({ cls := "java/lang/Object", name := "<init>", desc := "()V" } : Jvm.MethodName) object_method_1_code (1 : Nat) (Option.none : Option Jvm.ClassFile.FieldType), Jvm.Cond.code ({ cls := "com/example/anteroom/anteroom/PayloadWriter", name := "writeInt32", desc := "(I)Lcom/example/anteroom/anteroom/PayloadWriter;" } : Jvm.MethodName) prog_13_method_5_code (2 : Nat) (Option.some (Jvm.ClassFile.FieldType.object "com/example/anteroom/anteroom/PayloadWriter")), Jvm.Cond.code ({ cls := "com/example/anteroom/anteroom/PayloadWriter", name := "writeInt", desc := "(I)Lcom/example/anteroom/anteroom/PayloadWriter;" } : Jvm.MethodName) prog_13_method_4_code (2 : Nat) (Option.some (Jvm.ClassFile.FieldType.object "com/example/anteroom/anteroom/PayloadWriter")), Jvm.Cond.code ({ cls := "com/example/anteroom/anteroom/PayloadWriter", name := "ensure", desc := "(I)V" } : Jvm.MethodName) prog_13_method_14_code (2 : Nat) (Option.none : Option Jvm.ClassFile.FieldType), Jvm.Cond.code ({ cls := "java/lang/Math", name := "max", desc := "(II)I" } : Jvm.MethodName) jdk_29_method_65_code (2 : Nat) (Option.some Jvm.ClassFile.FieldType.int), Jvm.Cond.code ({ cls := "java/util/Arrays", name := "copyOf", desc := "([BI)[B" } : Jvm.MethodName) jdk_65_method_121_code (3 : Nat) (Option.some (Jvm.ClassFile.FieldType.array Jvm.ClassFile.FieldType.byte)), Jvm.Cond.code ({ cls := "java/lang/Math", name := "min", desc := "(II)I" } : Jvm.MethodName) jdk_29_method_69_code (2 : Nat) (Option.some Jvm.ClassFile.FieldType.int), Jvm.Cond.code ({ cls := "com/example/anteroom/anteroom/PayloadWriter", name := "setInt", desc := "(II)V" } : Jvm.MethodName) prog_13_method_10_code (3 : Nat) (Option.none : Option Jvm.ClassFile.FieldType), Jvm.Cond.code ({ cls := "com/example/anteroom/anteroom/PayloadWriter", name := "array", desc := "()[B" } : Jvm.MethodName) prog_13_method_12_code (1 : Nat) (Option.some (Jvm.ClassFile.FieldType.array Jvm.ClassFile.FieldType.byte)), Jvm.Cond.code ({ cls := "com/example/anteroom/anteroom/PayloadWriter", name := "length", desc := "()I" } : Jvm.MethodName) prog_13_method_13_code (1 : Nat) (Option.some Jvm.ClassFile.FieldType.int), Jvm.Cond.code ({ cls := "com/example/anteroom/anteroom/PayloadWriterSetIntPinLaw", name := "expect", desc := "(IIIII)B" } : Jvm.MethodName) method_2_code (5 : Nat) (Option.some Jvm.ClassFile.FieldType.byte)]
set_option maxRecDepth 65536 in
theorem codes_eq : words1.filter isCode = codes1 := rfl
theorem w_codes : ∀ c ∈ words1.filter isCode, c.before args0 about1 = true := by
  rw [codes_eq]
  intro c hc
  simp only [codes1, List.mem_cons, List.not_mem_nil, or_false] at hc
  rcases hc with rfl | rfl | rfl | rfl | rfl | rfl | rfl | rfl | rfl | rfl | rfl | rfl | rfl
  · exact w_c0
  · exact w_c1
  · exact w_c2
  · exact w_c3
  · exact w_c4
  · exact w_c5
  · exact w_c6
  · exact w_c7
  · exact w_c8
  · exact w_c9
  · exact w_c10
  · exact w_c11
  · exact w_c12
set_option maxRecDepth 65536 in
theorem w_t1 : (words1.take 24).all (fun c => isCode c || c.before args0 about1) = true := by decide +kernel
set_option maxRecDepth 65536 in
theorem w_t2 : ((words1.drop 24).take 24).all (fun c => isCode c || c.before args0 about1) = true := by decide +kernel
set_option maxRecDepth 65536 in
theorem w_t3 : ((words1.drop 24).drop 24).all (fun c => isCode c || c.before args0 about1) = true := by decide +kernel
theorem w_tables : (allAtoms (Jvm.Cond.code x code maxLocals ret :: tables_1)).before args0 about1 = true := by
  rw [allAtoms_all]
  show words1.all (fun c => c.before args0 about1) = true
  refine all_split ?_ w_codes
  rw [← List.take_append_drop 24 words1, List.all_append, w_t1, ← List.take_append_drop 24 (words1.drop 24), List.all_append, w_t2, w_t3]
  rfl
set_option maxRecDepth 65536 in
theorem w_case : (Jvm.Cond.and given_1 narrow_1).before args0 about1 = true := by decide +kernel
theorem w_applies : (headSpec (Jvm.Cond.code x code maxLocals ret :: tables_1) room_1).applies x e0.platform about1 = true :=
  (Spec.applies_iff w_frames).mpr ⟨w_running, w_runnable, w_alone, w_named, w_hears, w_ripe, w_room, w_tables⟩
theorem atStart : AtStart classFile x code maxLocals ret World_1 tables_1 room_1 Calls_1 rest_1 Pre_1 launch0 p0 e0 about1 theMethod args0 below0 :=
  ⟨lists_1, trivial, launch0.admits_env _ _ _, launch0.least_env, fairChoices_fair.cas, fairChoices_fair.clock, w_frames, w_args, w_heap, w_applies, trivial, trivial, w_case⟩
end start1
theorem witness_1 : WitnessClaimed_1 := ⟨start1.p0, start1.e0, start1.about1, start1.theMethod, start1.args0, start1.below0, start1.atStart⟩
end Jvm.Pilot.@@N@@
