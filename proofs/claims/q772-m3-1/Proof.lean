import JvmDerived
import JvmDerived.Pilot.@@N@@Statement
import JvmDerived.Pilot.@@N@@Code
set_option linter.unusedVariables false
set_option linter.unusedSimpArgs false
@@BLOCK:NumsL.lean.txt@@
namespace Jvm.Pilot.@@N@@
open Jvm Jvm.ClassFile Sem Op Lib Jvm.Free Jvm.Stand Jvm.LawKit Jvm.RoadKit Bundle Jvm.Pilot.@@N@@.Jvm.D
section OwnLayer
variable {p : Program} {l : Launch} {e : Env} {R : Room} {s : State} {m : MethodId} {args : Array Value} {below : List Frame} {meth : Method} {c : Code} {T : State} {locs : List Loc} {cells slots : Nat}
variable {F : State → Outcome → Prop} {kc ks : Nat} {Q : Option Value → Heap → List Loc → Prop} {pc pc' : Nat} {ls : Array Slot} {st : List Value} {Z : State} {a0 : Array Value} {h : Heap}
/-- from this state and frame the run comes to an end of which F holds -/
def Goes (p : Program) (e : Env) (below : List Frame) (F : State → Outcome → Prop) (T : State) (g : JFrame) : Prop :=
  ∃ s₂ o, Steps p.tables e below (T.setTop g) s₂ ∧ s₂.status = .running ∧ Ended s₂ below o ∧ F s₂ o
/-- it returns, Q holds of the value, the heap and the places written; the frame is the plain one -/
def FinN (s : State) (kc ks : Nat) (Q : Option Value → Heap → List Loc → Prop) (s₂ : State) (o : Outcome) : Prop := ∃ v L, o = .returned v ∧ Q v s₂.heap L ∧ FrameEnd s o s₂ L kc ks
theorem Goes.fore {T' : State} {g g' : JFrame} (k : ∀ target, Steps p.tables e below (T'.setTop g') target → Steps p.tables e below (T.setTop g) target) (G : Goes p e below F T' g') : Goes p e below F T g := by
  obtain ⟨a, b, h, r⟩ := G; exact ⟨a, b, k _ h, r⟩
theorem Goes.tr {T' : State} {g g' : JFrame} (k : Steps p.tables e below (T.setTop g) (T'.setTop g')) (G : Goes p e below F T' g') : Goes p e below F T g := by
  obtain ⟨a, b, h, r⟩ := G; exact ⟨a, b, k.trans h, r⟩
theorem Goes.cast {g g' : JFrame} (q : g = g') (G : Goes p e below F T g') : Goes p e below F T g := q ▸ G
/-- a body's contract: called with these arguments on this heap it returns, and Q holds of the value, the heap and the places written -/
def Ctr (l : Launch) (Z : State) (y : MethodName) (bytes : ByteArray) (maxL : Nat) (ret : Option FieldType) (ws : List Jvm.Cond) (rm : Room) (as' : Array Value) (h0 : Heap) (Q : Option Value → Heap → List Loc → Prop) : Prop :=
  MetFree l y (head1 (Jvm.Cond.code y bytes maxL ret :: ws) rm) (fun a U => a = as' ∧ Z.Warmed39 U.vm ∧ U.heap = h0) (fun _ _ _ _ _ => True) (fun _ U o U' => ∃ v L, o = .returned v ∧ Q v U'.heap L ∧ FrameEnd U o U' L rm.cells rm.slots)
theorem Ctr.of {y : MethodName} {bytes : ByteArray} {maxL : Nat} {ret : Option FieldType} {ws : List Jvm.Cond} {rm : Room} {as' : Array Value} {h0 : Heap} (hp : plainFor y = true)
    (body : ∀ (p : Program) (e : Env) (s : State) (m : MethodId) (below : List Frame) (meth : Method) (c : Code) (s₁ : State), p.tables.exec = Jvm.exec → c.code = bytes → c.maxLocals = maxL → meth.sig.returnType = ret → s.vm.findClass y.cls = some m.cls → meth.name = y.name → Z.Warmed39 s.vm → meth.locks = false → Stand p l e rm s m as' below meth c s₁ [] 0 0 → s₁.heap = h0 → Goes p e below (FinN s rm.cells rm.slots Q) s₁ (entryFrame m as' maxL)) :
    Ctr l Z y bytes maxL ret ws rm as' h0 Q := by
  refine MetFree.of_bodySF hp hisR ?_
  intro p e s m args below meth c s₁ Bd hml hP hK
  obtain ⟨rfl, hZ, hh⟩ := hP
  exact body p e s m below meth c s₁ Bd.exec Bd.bytes hml Bd.returns (findClass_of_methodNamed Bd.named) (name_of_methodNamed Bd.named Bd.method).1 hZ Bd.notSynchronized (Stand.of_body Bd) (by rw [← hh, Bd.state]; rfl)
theorem Ctr.mono {y : MethodName} {bytes : ByteArray} {maxL : Nat} {ret : Option FieldType} {ws : List Jvm.Cond} {rm : Room} {as' : Array Value} {h0 : Heap} {Q' : Option Value → Heap → List Loc → Prop} (C : Ctr l Z y bytes maxL ret ws rm as' h0 Q) (hq : ∀ v h L, Q v h L → Q' v h L) : Ctr l Z y bytes maxL ret ws rm as' h0 Q' := by
  intro p e ha hc hk s m args below hf happ hP hK
  obtain ⟨n, o, h1, h2, h3, v, L, h4, h5, h6⟩ := C p e ha hc hk s m args below hf happ hP hK
  exact ⟨n, o, h1, h2, h3, v, L, h4, hq _ _ _ h5, h6⟩
/-- it returns w and leaves the heap as it was -/
def Just (h0 : Heap) (w : Value) (v : Option Value) (h : Heap) (L : List Loc) : Prop := v = some w ∧ h = h0 ∧ L = []
theorem gLoadIN (X : Stand p l e R s m args below meth c T locs cells slots) (hx : p.tables.exec = Jvm.exec) {k : Fin 4} {v : Int32} (hd : decode c.code pc = .ok (.iload_n k, 1)) (hl : ls[k.val]? = some (.val (.int v))) (hp : pc + 1 = pc') (k : Goes p e below F T (mkF m pc' ls (.int v :: st))) : Goes p e below F T (mkF m pc ls st) := by
  subst hp; exact Goes.fore (fun _ q => XS.iloadN X.here hx rfl hd hl q) k
theorem gLoadI (X : Stand p l e R s m args below meth c T locs cells slots) (hx : p.tables.exec = Jvm.exec) {k : Nat} {v : Int32} (hd : decode c.code pc = .ok (.iload k, 2)) (hl : ls[k]? = some (.val (.int v))) (hp : pc + 2 = pc') (k : Goes p e below F T (mkF m pc' ls (.int v :: st))) : Goes p e below F T (mkF m pc ls st) := by
  subst hp; exact Goes.fore (fun _ q => XS.iload X.here hx rfl hd hl q) k
theorem gStoreIN (X : Stand p l e R s m args below meth c T locs cells slots) (hx : p.tables.exec = Jvm.exec) {k : Fin 4} {v : Int32} {l' : Array Slot} (hd : decode c.code pc = .ok (.istore_n k, 1)) (hl : storeLocals ls k.val (.int v) = some l') (hp : pc + 1 = pc') (k : Goes p e below F T (mkF m pc' l' st)) : Goes p e below F T (mkF m pc ls (.int v :: st)) := by
  subst hp; exact Goes.fore (fun _ q => XS.istoreN X.here hx rfl hd rfl hl q) k
theorem gStoreI (X : Stand p l e R s m args below meth c T locs cells slots) (hx : p.tables.exec = Jvm.exec) {k : Nat} {v : Int32} {l' : Array Slot} (hd : decode c.code pc = .ok (.istore k, 2)) (hl : storeLocals ls k (.int v) = some l') (hp : pc + 2 = pc') (k : Goes p e below F T (mkF m pc' l' st)) : Goes p e below F T (mkF m pc ls (.int v :: st)) := by
  subst hp; exact Goes.fore (fun _ q => XS.istore X.here hx rfl hd rfl hl q) k
theorem gLoadJN (X : Stand p l e R s m args below meth c T locs cells slots) (hx : p.tables.exec = Jvm.exec) {k : Fin 4} {v : Int64} (hd : decode c.code pc = .ok (.lload_n k, 1)) (hl : ls[k.val]? = some (.val (.long v))) (hp : pc + 1 = pc') (k : Goes p e below F T (mkF m pc' ls (.long v :: st))) : Goes p e below F T (mkF m pc ls st) := by
  subst hp; exact Goes.fore (fun _ q => XS.lloadN X.here hx rfl hd hl q) k
theorem gLoadJ (X : Stand p l e R s m args below meth c T locs cells slots) (hx : p.tables.exec = Jvm.exec) {k : Nat} {v : Int64} (hd : decode c.code pc = .ok (.lload k, 2)) (hl : ls[k]? = some (.val (.long v))) (hp : pc + 2 = pc') (k : Goes p e below F T (mkF m pc' ls (.long v :: st))) : Goes p e below F T (mkF m pc ls st) := by
  subst hp; exact Goes.fore (fun _ q => XS.lload X.here hx rfl hd hl q) k
theorem gStoreJN (X : Stand p l e R s m args below meth c T locs cells slots) (hx : p.tables.exec = Jvm.exec) {k : Fin 4} {v : Int64} {l' : Array Slot} (hd : decode c.code pc = .ok (.lstore_n k, 1)) (hl : storeLocals ls k.val (.long v) = some l') (hp : pc + 1 = pc') (k : Goes p e below F T (mkF m pc' l' st)) : Goes p e below F T (mkF m pc ls (.long v :: st)) := by
  subst hp; exact Goes.fore (fun _ q => XS.lstoreN X.here hx rfl hd rfl hl q) k
theorem gStoreJ (X : Stand p l e R s m args below meth c T locs cells slots) (hx : p.tables.exec = Jvm.exec) {k : Nat} {v : Int64} {l' : Array Slot} (hd : decode c.code pc = .ok (.lstore k, 2)) (hl : storeLocals ls k (.long v) = some l') (hp : pc + 2 = pc') (k : Goes p e below F T (mkF m pc' l' st)) : Goes p e below F T (mkF m pc ls (.long v :: st)) := by
  subst hp; exact Goes.fore (fun _ q => XS.lstore X.here hx rfl hd rfl hl q) k
theorem gLoadAN (X : Stand p l e R s m args below meth c T locs cells slots) (hx : p.tables.exec = Jvm.exec) {k : Fin 4} {v : Value} (hd : decode c.code pc = .ok (.aload_n k, 1)) (hl : ls[k.val]? = some (.val v)) (hv : v.isRef = true) (hp : pc + 1 = pc') (k : Goes p e below F T (mkF m pc' ls (v :: st))) : Goes p e below F T (mkF m pc ls st) := by
  subst hp; exact Goes.fore (fun _ q => XS.aloadN X.here hx rfl hd hl hv q) k
theorem gLoadA (X : Stand p l e R s m args below meth c T locs cells slots) (hx : p.tables.exec = Jvm.exec) {k : Nat} {v : Value} (hd : decode c.code pc = .ok (.aload k, 2)) (hl : ls[k]? = some (.val v)) (hv : v.isRef = true) (hp : pc + 2 = pc') (k : Goes p e below F T (mkF m pc' ls (v :: st))) : Goes p e below F T (mkF m pc ls st) := by
  subst hp; exact Goes.fore (fun _ q => XS.aload X.here hx rfl hd hl hv q) k
theorem gStoreAN (X : Stand p l e R s m args below meth c T locs cells slots) (hx : p.tables.exec = Jvm.exec) {k : Fin 4} {v : Value} {l' : Array Slot} (hd : decode c.code pc = .ok (.astore_n k, 1)) (hv : v.isRef = true) (hl : storeLocals ls k.val v = some l') (hp : pc + 1 = pc') (k : Goes p e below F T (mkF m pc' l' st)) : Goes p e below F T (mkF m pc ls (v :: st)) := by
  subst hp; exact Goes.fore (fun _ q => XS.astoreN X.here hx rfl hd rfl hv hl q) k
theorem gStoreA (X : Stand p l e R s m args below meth c T locs cells slots) (hx : p.tables.exec = Jvm.exec) {k : Nat} {v : Value} {l' : Array Slot} (hd : decode c.code pc = .ok (.astore k, 2)) (hv : v.isRef = true) (hl : storeLocals ls k v = some l') (hp : pc + 2 = pc') (k : Goes p e below F T (mkF m pc' l' st)) : Goes p e below F T (mkF m pc ls (v :: st)) := by
  subst hp; exact Goes.fore (fun _ q => XS.astore X.here hx rfl hd rfl hv hl q) k
theorem gIconst (X : Stand p l e R s m args below meth c T locs cells slots) (hx : p.tables.exec = Jvm.exec) {i : Int} {v : Int32} (hd : decode c.code pc = .ok (.iconst i, 1)) (hv : Int32.ofInt i = v) (hp : pc + 1 = pc') (k : Goes p e below F T (mkF m pc' ls (.int v :: st))) : Goes p e below F T (mkF m pc ls st) := by
  subst hp; exact Goes.fore (fun _ q => XT.iconstV X.here hx rfl v hd hv q) k
theorem gBipush (X : Stand p l e R s m args below meth c T locs cells slots) (hx : p.tables.exec = Jvm.exec) {i : Int} {v : Int32} (hd : decode c.code pc = .ok (.bipush i, 2)) (hv : (Int8.ofInt i).toInt32 = v) (hp : pc + 2 = pc') (k : Goes p e below F T (mkF m pc' ls (.int v :: st))) : Goes p e below F T (mkF m pc ls st) := by
  subst hp; exact Goes.fore (fun _ q => XT.bipushV X.here hx rfl v hd hv q) k
theorem gSipush (X : Stand p l e R s m args below meth c T locs cells slots) (hx : p.tables.exec = Jvm.exec) {i : Int} {v : Int32} (hd : decode c.code pc = .ok (.sipush i, 3)) (hv : (Int16.ofInt i).toInt32 = v) (hp : pc + 3 = pc') (k : Goes p e below F T (mkF m pc' ls (.int v :: st))) : Goes p e below F T (mkF m pc ls st) := by
  subst hp; exact Goes.fore (fun _ q => XT.sipushV X.here hx rfl v hd hv q) k
theorem gLconst (X : Stand p l e R s m args below meth c T locs cells slots) (hx : p.tables.exec = Jvm.exec) {i : Fin 2} {v : Int64} (hd : decode c.code pc = .ok (.lconst i, 1)) (hv : Int64.ofNat i = v) (hp : pc + 1 = pc') (k : Goes p e below F T (mkF m pc' ls (.long v :: st))) : Goes p e below F T (mkF m pc ls st) := by
  subst hp; exact Goes.fore (fun _ q => XT.lconstV X.here hx rfl v hd hv q) k
theorem gNull (X : Stand p l e R s m args below meth c T locs cells slots) (hx : p.tables.exec = Jvm.exec)  (hd : decode c.code pc = .ok (.aconst_null, 1))  (hp : pc + 1 = pc') (k : Goes p e below F T (mkF m pc' ls (.null :: st))) : Goes p e below F T (mkF m pc ls st) := by
  subst hp; exact Goes.fore (fun _ q => XS.aconstNull X.here hx rfl hd q) k
theorem gLdc (X : Stand p l e R s m args below meth c T locs cells slots) (hx : p.tables.exec = Jvm.exec) {own : String} {i : Nat} {v : Int32} (hZ : Z.Warmed39 s.vm) (hown : s.vm.findClass own = some m.cls) (w : (Jvm.Cond.constant own i v).before a0 Z = true) (hd : decode c.code pc = .ok (.ldc i, 2))  (hp : pc + 2 = pc') (k : Goes p e below F T (mkF m pc' ls (.int v :: st))) : Goes p e below F T (mkF m pc ls st) := by
  subst hp; exact Goes.fore (fun _ q => X.ldcI hx hown (mvT hZ w) rfl hd q) k
theorem gLdcW (X : Stand p l e R s m args below meth c T locs cells slots) (hx : p.tables.exec = Jvm.exec) {own : String} {i : Nat} {v : Int32} (hZ : Z.Warmed39 s.vm) (hown : s.vm.findClass own = some m.cls) (w : (Jvm.Cond.constant own i v).before a0 Z = true) (hd : decode c.code pc = .ok (.ldc_w i, 3))  (hp : pc + 3 = pc') (k : Goes p e below F T (mkF m pc' ls (.int v :: st))) : Goes p e below F T (mkF m pc ls st) := by
  subst hp; exact Goes.fore (fun _ q => X.ldcWI hx hown (mvT hZ w) rfl hd q) k
theorem gLdc2 (X : Stand p l e R s m args below meth c T locs cells slots) (hx : p.tables.exec = Jvm.exec) {own : String} {i : Nat} {v : Int64} (hZ : Z.Warmed39 s.vm) (hown : s.vm.findClass own = some m.cls) (w : (Jvm.Cond.constantLong own i v).before a0 Z = true) (hd : decode c.code pc = .ok (.ldc2_w i, 3))  (hp : pc + 3 = pc') (k : Goes p e below F T (mkF m pc' ls (.long v :: st))) : Goes p e below F T (mkF m pc ls st) := by
  subst hp; exact Goes.fore (fun _ q => X.ldc2J hx hown (mvT hZ w) rfl hd q) k
theorem gIadd (X : Stand p l e R s m args below meth c T locs cells slots) (hx : p.tables.exec = Jvm.exec) {x y : Int32} (hd : decode c.code pc = .ok (.iadd, 1))  (hp : pc + 1 = pc') (k : Goes p e below F T (mkF m pc' ls (.int (x + y) :: st))) : Goes p e below F T (mkF m pc ls (.int y :: .int x :: st)) := by
  subst hp; exact Goes.fore (fun _ q => XS.iadd X.here hx rfl hd rfl q) k
theorem gIsub (X : Stand p l e R s m args below meth c T locs cells slots) (hx : p.tables.exec = Jvm.exec) {x y : Int32} (hd : decode c.code pc = .ok (.isub, 1))  (hp : pc + 1 = pc') (k : Goes p e below F T (mkF m pc' ls (.int (x - y) :: st))) : Goes p e below F T (mkF m pc ls (.int y :: .int x :: st)) := by
  subst hp; exact Goes.fore (fun _ q => XS.isub X.here hx rfl hd rfl q) k
theorem gImul (X : Stand p l e R s m args below meth c T locs cells slots) (hx : p.tables.exec = Jvm.exec) {x y : Int32} (hd : decode c.code pc = .ok (.imul, 1))  (hp : pc + 1 = pc') (k : Goes p e below F T (mkF m pc' ls (.int (x * y) :: st))) : Goes p e below F T (mkF m pc ls (.int y :: .int x :: st)) := by
  subst hp; exact Goes.fore (fun _ q => XS.imul X.here hx rfl hd rfl q) k
theorem gIand (X : Stand p l e R s m args below meth c T locs cells slots) (hx : p.tables.exec = Jvm.exec) {x y : Int32} (hd : decode c.code pc = .ok (.iand, 1))  (hp : pc + 1 = pc') (k : Goes p e below F T (mkF m pc' ls (.int (x &&& y) :: st))) : Goes p e below F T (mkF m pc ls (.int y :: .int x :: st)) := by
  subst hp; exact Goes.fore (fun _ q => XS.iand X.here hx rfl hd rfl q) k
theorem gIor (X : Stand p l e R s m args below meth c T locs cells slots) (hx : p.tables.exec = Jvm.exec) {x y : Int32} (hd : decode c.code pc = .ok (.ior, 1))  (hp : pc + 1 = pc') (k : Goes p e below F T (mkF m pc' ls (.int (x ||| y) :: st))) : Goes p e below F T (mkF m pc ls (.int y :: .int x :: st)) := by
  subst hp; exact Goes.fore (fun _ q => XS.ior X.here hx rfl hd rfl q) k
theorem gIxor (X : Stand p l e R s m args below meth c T locs cells slots) (hx : p.tables.exec = Jvm.exec) {x y : Int32} (hd : decode c.code pc = .ok (.ixor, 1))  (hp : pc + 1 = pc') (k : Goes p e below F T (mkF m pc' ls (.int (x ^^^ y) :: st))) : Goes p e below F T (mkF m pc ls (.int y :: .int x :: st)) := by
  subst hp; exact Goes.fore (fun _ q => XS.ixor X.here hx rfl hd rfl q) k
theorem gIshl (X : Stand p l e R s m args below meth c T locs cells slots) (hx : p.tables.exec = Jvm.exec) {x y : Int32} (hd : decode c.code pc = .ok (.ishl, 1))  (hp : pc + 1 = pc') (k : Goes p e below F T (mkF m pc' ls (.int (x <<< (y &&& 31)) :: st))) : Goes p e below F T (mkF m pc ls (.int y :: .int x :: st)) := by
  subst hp; exact Goes.fore (fun _ q => XS.ishl X.here hx rfl hd rfl q) k
theorem gIshr (X : Stand p l e R s m args below meth c T locs cells slots) (hx : p.tables.exec = Jvm.exec) {x y : Int32} (hd : decode c.code pc = .ok (.ishr, 1))  (hp : pc + 1 = pc') (k : Goes p e below F T (mkF m pc' ls (.int (x >>> (y &&& 31)) :: st))) : Goes p e below F T (mkF m pc ls (.int y :: .int x :: st)) := by
  subst hp; exact Goes.fore (fun _ q => XS.ishr X.here hx rfl hd rfl q) k
theorem gIushr (X : Stand p l e R s m args below meth c T locs cells slots) (hx : p.tables.exec = Jvm.exec) {x y : Int32} (hd : decode c.code pc = .ok (.iushr, 1))  (hp : pc + 1 = pc') (k : Goes p e below F T (mkF m pc' ls (.int ((x.toUInt32 >>> (y &&& 31).toUInt32).toInt32) :: st))) : Goes p e below F T (mkF m pc ls (.int y :: .int x :: st)) := by
  subst hp; exact Goes.fore (fun _ q => XS.iushr X.here hx rfl hd rfl q) k
theorem gLadd (X : Stand p l e R s m args below meth c T locs cells slots) (hx : p.tables.exec = Jvm.exec) {x y : Int64} (hd : decode c.code pc = .ok (.ladd, 1))  (hp : pc + 1 = pc') (k : Goes p e below F T (mkF m pc' ls (.long (x + y) :: st))) : Goes p e below F T (mkF m pc ls (.long y :: .long x :: st)) := by
  subst hp; exact Goes.fore (fun _ q => XS.ladd X.here hx rfl hd rfl q) k
theorem gLsub (X : Stand p l e R s m args below meth c T locs cells slots) (hx : p.tables.exec = Jvm.exec) {x y : Int64} (hd : decode c.code pc = .ok (.lsub, 1))  (hp : pc + 1 = pc') (k : Goes p e below F T (mkF m pc' ls (.long (x - y) :: st))) : Goes p e below F T (mkF m pc ls (.long y :: .long x :: st)) := by
  subst hp; exact Goes.fore (fun _ q => XS.lsub X.here hx rfl hd rfl q) k
theorem gLmul (X : Stand p l e R s m args below meth c T locs cells slots) (hx : p.tables.exec = Jvm.exec) {x y : Int64} (hd : decode c.code pc = .ok (.lmul, 1))  (hp : pc + 1 = pc') (k : Goes p e below F T (mkF m pc' ls (.long (x * y) :: st))) : Goes p e below F T (mkF m pc ls (.long y :: .long x :: st)) := by
  subst hp; exact Goes.fore (fun _ q => XS.lmul X.here hx rfl hd rfl q) k
theorem gLand (X : Stand p l e R s m args below meth c T locs cells slots) (hx : p.tables.exec = Jvm.exec) {x y : Int64} (hd : decode c.code pc = .ok (.land, 1))  (hp : pc + 1 = pc') (k : Goes p e below F T (mkF m pc' ls (.long (x &&& y) :: st))) : Goes p e below F T (mkF m pc ls (.long y :: .long x :: st)) := by
  subst hp; exact Goes.fore (fun _ q => XS.land X.here hx rfl hd rfl q) k
theorem gLor (X : Stand p l e R s m args below meth c T locs cells slots) (hx : p.tables.exec = Jvm.exec) {x y : Int64} (hd : decode c.code pc = .ok (.lor, 1))  (hp : pc + 1 = pc') (k : Goes p e below F T (mkF m pc' ls (.long (x ||| y) :: st))) : Goes p e below F T (mkF m pc ls (.long y :: .long x :: st)) := by
  subst hp; exact Goes.fore (fun _ q => XS.lor X.here hx rfl hd rfl q) k
theorem gLxor (X : Stand p l e R s m args below meth c T locs cells slots) (hx : p.tables.exec = Jvm.exec) {x y : Int64} (hd : decode c.code pc = .ok (.lxor, 1))  (hp : pc + 1 = pc') (k : Goes p e below F T (mkF m pc' ls (.long (x ^^^ y) :: st))) : Goes p e below F T (mkF m pc ls (.long y :: .long x :: st)) := by
  subst hp; exact Goes.fore (fun _ q => XS.lxor X.here hx rfl hd rfl q) k
theorem gLshl (X : Stand p l e R s m args below meth c T locs cells slots) (hx : p.tables.exec = Jvm.exec) {x : Int64} {y : Int32} (hd : decode c.code pc = .ok (.lshl, 1))  (hp : pc + 1 = pc') (k : Goes p e below F T (mkF m pc' ls (.long (x <<< (y &&& 0x3f).toInt64) :: st))) : Goes p e below F T (mkF m pc ls (.int y :: .long x :: st)) := by
  subst hp; exact Goes.fore (fun _ q => XS.lshl X.here hx rfl hd rfl q) k
theorem gLshr (X : Stand p l e R s m args below meth c T locs cells slots) (hx : p.tables.exec = Jvm.exec) {x : Int64} {y : Int32} (hd : decode c.code pc = .ok (.lshr, 1))  (hp : pc + 1 = pc') (k : Goes p e below F T (mkF m pc' ls (.long (x >>> (y &&& 0x3f).toInt64) :: st))) : Goes p e below F T (mkF m pc ls (.int y :: .long x :: st)) := by
  subst hp; exact Goes.fore (fun _ q => XS.lshr X.here hx rfl hd rfl q) k
theorem gLushr (X : Stand p l e R s m args below meth c T locs cells slots) (hx : p.tables.exec = Jvm.exec) {x : Int64} {y : Int32} (hd : decode c.code pc = .ok (.lushr, 1))  (hp : pc + 1 = pc') (k : Goes p e below F T (mkF m pc' ls (.long ((x.toUInt64 >>> (y &&& 0x3f).toInt64.toUInt64).toInt64) :: st))) : Goes p e below F T (mkF m pc ls (.int y :: .long x :: st)) := by
  subst hp; exact Goes.fore (fun _ q => XS.lushr X.here hx rfl hd rfl q) k
theorem gIdiv (X : Stand p l e R s m args below meth c T locs cells slots) (hx : p.tables.exec = Jvm.exec) {x y : Int32} (hd : decode c.code pc = .ok (.idiv, 1)) (hy : y ≠ 0) (hp : pc + 1 = pc') (k : Goes p e below F T (mkF m pc' ls (.int (x / y) :: st))) : Goes p e below F T (mkF m pc ls (.int y :: .int x :: st)) := by
  subst hp; exact Goes.fore (fun _ q => XS.idiv X.here hx rfl hd rfl hy q) k
theorem gIrem (X : Stand p l e R s m args below meth c T locs cells slots) (hx : p.tables.exec = Jvm.exec) {x y : Int32} (hd : decode c.code pc = .ok (.irem, 1)) (hy : y ≠ 0) (hp : pc + 1 = pc') (k : Goes p e below F T (mkF m pc' ls (.int (x % y) :: st))) : Goes p e below F T (mkF m pc ls (.int y :: .int x :: st)) := by
  subst hp; exact Goes.fore (fun _ q => iremM X hx rfl hd rfl hy q) k
theorem gIneg (X : Stand p l e R s m args below meth c T locs cells slots) (hx : p.tables.exec = Jvm.exec) {x : Int32} (hd : decode c.code pc = .ok (.ineg, 1))  (hp : pc + 1 = pc') (k : Goes p e below F T (mkF m pc' ls (.int (-x) :: st))) : Goes p e below F T (mkF m pc ls (.int x :: st)) := by
  subst hp; exact Goes.fore (fun _ q => XS.ineg X.here hx rfl hd rfl q) k
theorem gLneg (X : Stand p l e R s m args below meth c T locs cells slots) (hx : p.tables.exec = Jvm.exec) {x : Int64} (hd : decode c.code pc = .ok (.lneg, 1))  (hp : pc + 1 = pc') (k : Goes p e below F T (mkF m pc' ls (.long (-x) :: st))) : Goes p e below F T (mkF m pc ls (.long x :: st)) := by
  subst hp; exact Goes.fore (fun _ q => XS.lneg X.here hx rfl hd rfl q) k
theorem gI2l (X : Stand p l e R s m args below meth c T locs cells slots) (hx : p.tables.exec = Jvm.exec) {x : Int32} (hd : decode c.code pc = .ok (.i2l, 1))  (hp : pc + 1 = pc') (k : Goes p e below F T (mkF m pc' ls (.long (x.toInt64) :: st))) : Goes p e below F T (mkF m pc ls (.int x :: st)) := by
  subst hp; exact Goes.fore (fun _ q => XS.i2l X.here hx rfl hd rfl q) k
theorem gL2i (X : Stand p l e R s m args below meth c T locs cells slots) (hx : p.tables.exec = Jvm.exec) {x : Int64} (hd : decode c.code pc = .ok (.l2i, 1))  (hp : pc + 1 = pc') (k : Goes p e below F T (mkF m pc' ls (.int (x.toInt32) :: st))) : Goes p e below F T (mkF m pc ls (.long x :: st)) := by
  subst hp; exact Goes.fore (fun _ q => XS.l2i X.here hx rfl hd rfl q) k
theorem gI2b (X : Stand p l e R s m args below meth c T locs cells slots) (hx : p.tables.exec = Jvm.exec) {x : Int32} (hd : decode c.code pc = .ok (.i2b, 1))  (hp : pc + 1 = pc') (k : Goes p e below F T (mkF m pc' ls (.int (x.toInt8.toInt32) :: st))) : Goes p e below F T (mkF m pc ls (.int x :: st)) := by
  subst hp; exact Goes.fore (fun _ q => XS.i2b X.here hx rfl hd rfl q) k
theorem gI2c (X : Stand p l e R s m args below meth c T locs cells slots) (hx : p.tables.exec = Jvm.exec) {x : Int32} (hd : decode c.code pc = .ok (.i2c, 1))  (hp : pc + 1 = pc') (k : Goes p e below F T (mkF m pc' ls (.int (x.toUInt32.toUInt16.toUInt32.toInt32) :: st))) : Goes p e below F T (mkF m pc ls (.int x :: st)) := by
  subst hp; exact Goes.fore (fun _ q => XS.i2c X.here hx rfl hd rfl q) k
theorem gI2s (X : Stand p l e R s m args below meth c T locs cells slots) (hx : p.tables.exec = Jvm.exec) {x : Int32} (hd : decode c.code pc = .ok (.i2s, 1))  (hp : pc + 1 = pc') (k : Goes p e below F T (mkF m pc' ls (.int (x.toInt16.toInt32) :: st))) : Goes p e below F T (mkF m pc ls (.int x :: st)) := by
  subst hp; exact Goes.fore (fun _ q => XS.i2s X.here hx rfl hd rfl q) k
theorem gLcmp (X : Stand p l e R s m args below meth c T locs cells slots) (hx : p.tables.exec = Jvm.exec) {x y : Int64} (hd : decode c.code pc = .ok (.lcmp, 1))  (hp : pc + 1 = pc') (k : Goes p e below F T (mkF m pc' ls (.int (lcmpW x y) :: st))) : Goes p e below F T (mkF m pc ls (.long y :: .long x :: st)) := by
  subst hp; exact Goes.fore (fun _ q => XS.lcmp X.here hx rfl hd rfl q) k
theorem gIinc (X : Stand p l e R s m args below meth c T locs cells slots) (hx : p.tables.exec = Jvm.exec) {k : Nat} {i : Int} {x v : Int32} {l' : Array Slot} (hd : decode c.code pc = .ok (.iinc k i, 3)) (hv : Int32.ofInt i = v) (hl : ls[k]? = some (.val (.int x))) (hl' : storeLocals ls k (.int (x + v)) = some l') (hp : pc + 3 = pc') (k : Goes p e below F T (mkF m pc' l' st)) : Goes p e below F T (mkF m pc ls st) := by
  subst hp; exact Goes.fore (fun _ q => XT.iincV X.here hx rfl v hd hv hl hl' q) k
theorem gDup (X : Stand p l e R s m args below meth c T locs cells slots) (hx : p.tables.exec = Jvm.exec) {v : Value} (hd : decode c.code pc = .ok (.dup, 1)) (hv : v.category = 1) (hp : pc + 1 = pc') (k : Goes p e below F T (mkF m pc' ls (v :: v :: st))) : Goes p e below F T (mkF m pc ls (v :: st)) := by
  subst hp; exact Goes.fore (fun _ q => XS.dup X.here hx rfl hd rfl hv q) k
theorem gPop (X : Stand p l e R s m args below meth c T locs cells slots) (hx : p.tables.exec = Jvm.exec) {v : Value} (hd : decode c.code pc = .ok (.pop, 1)) (hv : v.category = 1) (hp : pc + 1 = pc') (k : Goes p e below F T (mkF m pc' ls st)) : Goes p e below F T (mkF m pc ls (v :: st)) := by
  subst hp; exact Goes.fore (fun _ q => XS.pop X.here hx rfl hd rfl hv q) k
theorem gDupX1 (X : Stand p l e R s m args below meth c T locs cells slots) (hx : p.tables.exec = Jvm.exec) {v w : Value} (hd : decode c.code pc = .ok (.dup_x1, 1)) (hv : v.category = 1) (hw : w.category = 1) (hp : pc + 1 = pc') (k : Goes p e below F T (mkF m pc' ls (v :: w :: v :: st))) : Goes p e below F T (mkF m pc ls (v :: w :: st)) := by
  subst hp; exact Goes.fore (fun _ q => XS.dupX1 X.here hx rfl hd rfl hv hw q) k
theorem gDup2 (X : Stand p l e R s m args below meth c T locs cells slots) (hx : p.tables.exec = Jvm.exec) {v w : Value} (hd : decode c.code pc = .ok (.dup2, 1)) (hv : v.category = 1) (hw : w.category = 1) (hp : pc + 1 = pc') (k : Goes p e below F T (mkF m pc' ls (v :: w :: v :: w :: st))) : Goes p e below F T (mkF m pc ls (v :: w :: st)) := by
  subst hp; exact Goes.fore (fun _ q => XT.dup2 X.here hx rfl hd rfl hv hw q) k
theorem gGoto (X : Stand p l e R s m args below meth c T locs cells slots) (hx : p.tables.exec = Jvm.exec) {o : Int} (hd : decode c.code pc = .ok (.goto o, 3)) (ho : 0 ≤ (pc : Int) + o) (hp : ((pc : Int) + o).toNat = pc') (k : Goes p e below F T (mkF m pc' ls st)) : Goes p e below F T (mkF m pc ls st) := Goes.fore (fun _ q => XS.goto X.here hx rfl rfl hd ho hp q) k
theorem gIcmp (X : Stand p l e R s m args below meth c T locs cells slots) (hx : p.tables.exec = Jvm.exec) {cd : ClassFile.Cond} {o : Int} {x y : Int32} {pn : Nat} (hd : decode c.code pc = .ok (.if_icmp cd o, 3)) (ho : 0 ≤ (pc : Int) + o) (hp : ((pc : Int) + o).toNat = pc') (hn : pc + 3 = pn) (kY : if_icmp.holds cd x y = true → Goes p e below F T (mkF m pc' ls st)) (kN : if_icmp.holds cd x y = false → Goes p e below F T (mkF m pn ls st)) : Goes p e below F T (mkF m pc ls (.int y :: .int x :: st)) := by
  subst hn
  cases hb : if_icmp.holds cd x y
  · exact Goes.fore (fun _ q => XS.icmpNo X.here hx rfl hd rfl hb q) (kN hb)
  · exact Goes.fore (fun _ q => XS.icmpYes X.here hx rfl rfl hd rfl hb ho hp q) (kY hb)
theorem gIf (X : Stand p l e R s m args below meth c T locs cells slots) (hx : p.tables.exec = Jvm.exec) {cd : ClassFile.Cond} {o : Int} {x : Int32} {pn : Nat} (hd : decode c.code pc = .ok (.ifCond cd o, 3)) (ho : 0 ≤ (pc : Int) + o) (hp : ((pc : Int) + o).toNat = pc') (hn : pc + 3 = pn) (kY : ifCond.holds cd x = true → Goes p e below F T (mkF m pc' ls st)) (kN : ifCond.holds cd x = false → Goes p e below F T (mkF m pn ls st)) : Goes p e below F T (mkF m pc ls (.int x :: st)) := by
  subst hn
  cases hb : ifCond.holds cd x
  · exact Goes.fore (fun _ q => XS.ifNo X.here hx rfl hd rfl hb q) (kN hb)
  · exact Goes.fore (fun _ q => XS.ifYes X.here hx rfl rfl hd rfl hb ho hp q) (kY hb)
theorem gIcmpEq (X : Stand p l e R s m args below meth c T locs cells slots) (hx : p.tables.exec = Jvm.exec) {o : Int} {x y : Int32} {pn : Nat} (hd : decode c.code pc = .ok (.if_icmp .eq o, 3)) (ho : 0 ≤ (pc : Int) + o) (hp : ((pc : Int) + o).toNat = pc') (hn : pc + 3 = pn) (kY : x = y → Goes p e below F T (mkF m pc' ls st)) (kN : ¬ x = y → Goes p e below F T (mkF m pn ls st)) : Goes p e below F T (mkF m pc ls (.int y :: .int x :: st)) :=
  gIcmp X hx hd ho hp hn (fun q => kY (by simpa [if_icmp.holds, Int32.lt_iff_toInt_lt, Int32.le_iff_toInt_le] using q)) (fun q => kN (by simpa [if_icmp.holds, Int32.lt_iff_toInt_lt, Int32.le_iff_toInt_le] using q))
theorem gIfEq (X : Stand p l e R s m args below meth c T locs cells slots) (hx : p.tables.exec = Jvm.exec) {o : Int} {x : Int32} {pn : Nat} (hd : decode c.code pc = .ok (.ifCond .eq o, 3)) (ho : 0 ≤ (pc : Int) + o) (hp : ((pc : Int) + o).toNat = pc') (hn : pc + 3 = pn) (kY : x = 0 → Goes p e below F T (mkF m pc' ls st)) (kN : ¬ x = 0 → Goes p e below F T (mkF m pn ls st)) : Goes p e below F T (mkF m pc ls (.int x :: st)) :=
  gIf X hx hd ho hp hn (fun q => kY (by simpa [ifCond.holds, Int32.lt_iff_toInt_lt, Int32.le_iff_toInt_le] using q)) (fun q => kN (by simpa [ifCond.holds, Int32.lt_iff_toInt_lt, Int32.le_iff_toInt_le] using q))
theorem gIcmpNe (X : Stand p l e R s m args below meth c T locs cells slots) (hx : p.tables.exec = Jvm.exec) {o : Int} {x y : Int32} {pn : Nat} (hd : decode c.code pc = .ok (.if_icmp .ne o, 3)) (ho : 0 ≤ (pc : Int) + o) (hp : ((pc : Int) + o).toNat = pc') (hn : pc + 3 = pn) (kY : ¬ x = y → Goes p e below F T (mkF m pc' ls st)) (kN : x = y → Goes p e below F T (mkF m pn ls st)) : Goes p e below F T (mkF m pc ls (.int y :: .int x :: st)) :=
  gIcmp X hx hd ho hp hn (fun q => kY (by simpa [if_icmp.holds, Int32.lt_iff_toInt_lt, Int32.le_iff_toInt_le] using q)) (fun q => kN (by simpa [if_icmp.holds, Int32.lt_iff_toInt_lt, Int32.le_iff_toInt_le] using q))
theorem gIfNe (X : Stand p l e R s m args below meth c T locs cells slots) (hx : p.tables.exec = Jvm.exec) {o : Int} {x : Int32} {pn : Nat} (hd : decode c.code pc = .ok (.ifCond .ne o, 3)) (ho : 0 ≤ (pc : Int) + o) (hp : ((pc : Int) + o).toNat = pc') (hn : pc + 3 = pn) (kY : ¬ x = 0 → Goes p e below F T (mkF m pc' ls st)) (kN : x = 0 → Goes p e below F T (mkF m pn ls st)) : Goes p e below F T (mkF m pc ls (.int x :: st)) :=
  gIf X hx hd ho hp hn (fun q => kY (by simpa [ifCond.holds, Int32.lt_iff_toInt_lt, Int32.le_iff_toInt_le] using q)) (fun q => kN (by simpa [ifCond.holds, Int32.lt_iff_toInt_lt, Int32.le_iff_toInt_le] using q))
theorem gIcmpLt (X : Stand p l e R s m args below meth c T locs cells slots) (hx : p.tables.exec = Jvm.exec) {o : Int} {x y : Int32} {pn : Nat} (hd : decode c.code pc = .ok (.if_icmp .lt o, 3)) (ho : 0 ≤ (pc : Int) + o) (hp : ((pc : Int) + o).toNat = pc') (hn : pc + 3 = pn) (kY : x.toInt < y.toInt → Goes p e below F T (mkF m pc' ls st)) (kN : y.toInt ≤ x.toInt → Goes p e below F T (mkF m pn ls st)) : Goes p e below F T (mkF m pc ls (.int y :: .int x :: st)) :=
  gIcmp X hx hd ho hp hn (fun q => kY (by simpa [if_icmp.holds, Int32.lt_iff_toInt_lt, Int32.le_iff_toInt_le] using q)) (fun q => kN (by simpa [if_icmp.holds, Int32.lt_iff_toInt_lt, Int32.le_iff_toInt_le] using q))
theorem gIfLt (X : Stand p l e R s m args below meth c T locs cells slots) (hx : p.tables.exec = Jvm.exec) {o : Int} {x : Int32} {pn : Nat} (hd : decode c.code pc = .ok (.ifCond .lt o, 3)) (ho : 0 ≤ (pc : Int) + o) (hp : ((pc : Int) + o).toNat = pc') (hn : pc + 3 = pn) (kY : x.toInt < (0 : Int) → Goes p e below F T (mkF m pc' ls st)) (kN : (0 : Int) ≤ x.toInt → Goes p e below F T (mkF m pn ls st)) : Goes p e below F T (mkF m pc ls (.int x :: st)) :=
  gIf X hx hd ho hp hn (fun q => kY (by simpa [ifCond.holds, Int32.lt_iff_toInt_lt, Int32.le_iff_toInt_le] using q)) (fun q => kN (by simpa [ifCond.holds, Int32.lt_iff_toInt_lt, Int32.le_iff_toInt_le] using q))
theorem gIcmpGe (X : Stand p l e R s m args below meth c T locs cells slots) (hx : p.tables.exec = Jvm.exec) {o : Int} {x y : Int32} {pn : Nat} (hd : decode c.code pc = .ok (.if_icmp .ge o, 3)) (ho : 0 ≤ (pc : Int) + o) (hp : ((pc : Int) + o).toNat = pc') (hn : pc + 3 = pn) (kY : y.toInt ≤ x.toInt → Goes p e below F T (mkF m pc' ls st)) (kN : x.toInt < y.toInt → Goes p e below F T (mkF m pn ls st)) : Goes p e below F T (mkF m pc ls (.int y :: .int x :: st)) :=
  gIcmp X hx hd ho hp hn (fun q => kY (by simpa [if_icmp.holds, Int32.lt_iff_toInt_lt, Int32.le_iff_toInt_le] using q)) (fun q => kN (by simpa [if_icmp.holds, Int32.lt_iff_toInt_lt, Int32.le_iff_toInt_le] using q))
theorem gIfGe (X : Stand p l e R s m args below meth c T locs cells slots) (hx : p.tables.exec = Jvm.exec) {o : Int} {x : Int32} {pn : Nat} (hd : decode c.code pc = .ok (.ifCond .ge o, 3)) (ho : 0 ≤ (pc : Int) + o) (hp : ((pc : Int) + o).toNat = pc') (hn : pc + 3 = pn) (kY : (0 : Int) ≤ x.toInt → Goes p e below F T (mkF m pc' ls st)) (kN : x.toInt < (0 : Int) → Goes p e below F T (mkF m pn ls st)) : Goes p e below F T (mkF m pc ls (.int x :: st)) :=
  gIf X hx hd ho hp hn (fun q => kY (by simpa [ifCond.holds, Int32.lt_iff_toInt_lt, Int32.le_iff_toInt_le] using q)) (fun q => kN (by simpa [ifCond.holds, Int32.lt_iff_toInt_lt, Int32.le_iff_toInt_le] using q))
theorem gIcmpGt (X : Stand p l e R s m args below meth c T locs cells slots) (hx : p.tables.exec = Jvm.exec) {o : Int} {x y : Int32} {pn : Nat} (hd : decode c.code pc = .ok (.if_icmp .gt o, 3)) (ho : 0 ≤ (pc : Int) + o) (hp : ((pc : Int) + o).toNat = pc') (hn : pc + 3 = pn) (kY : y.toInt < x.toInt → Goes p e below F T (mkF m pc' ls st)) (kN : x.toInt ≤ y.toInt → Goes p e below F T (mkF m pn ls st)) : Goes p e below F T (mkF m pc ls (.int y :: .int x :: st)) :=
  gIcmp X hx hd ho hp hn (fun q => kY (by simpa [if_icmp.holds, Int32.lt_iff_toInt_lt, Int32.le_iff_toInt_le] using q)) (fun q => kN (by simpa [if_icmp.holds, Int32.lt_iff_toInt_lt, Int32.le_iff_toInt_le] using q))
theorem gIfGt (X : Stand p l e R s m args below meth c T locs cells slots) (hx : p.tables.exec = Jvm.exec) {o : Int} {x : Int32} {pn : Nat} (hd : decode c.code pc = .ok (.ifCond .gt o, 3)) (ho : 0 ≤ (pc : Int) + o) (hp : ((pc : Int) + o).toNat = pc') (hn : pc + 3 = pn) (kY : (0 : Int) < x.toInt → Goes p e below F T (mkF m pc' ls st)) (kN : x.toInt ≤ (0 : Int) → Goes p e below F T (mkF m pn ls st)) : Goes p e below F T (mkF m pc ls (.int x :: st)) :=
  gIf X hx hd ho hp hn (fun q => kY (by simpa [ifCond.holds, Int32.lt_iff_toInt_lt, Int32.le_iff_toInt_le] using q)) (fun q => kN (by simpa [ifCond.holds, Int32.lt_iff_toInt_lt, Int32.le_iff_toInt_le] using q))
theorem gIcmpLe (X : Stand p l e R s m args below meth c T locs cells slots) (hx : p.tables.exec = Jvm.exec) {o : Int} {x y : Int32} {pn : Nat} (hd : decode c.code pc = .ok (.if_icmp .le o, 3)) (ho : 0 ≤ (pc : Int) + o) (hp : ((pc : Int) + o).toNat = pc') (hn : pc + 3 = pn) (kY : x.toInt ≤ y.toInt → Goes p e below F T (mkF m pc' ls st)) (kN : y.toInt < x.toInt → Goes p e below F T (mkF m pn ls st)) : Goes p e below F T (mkF m pc ls (.int y :: .int x :: st)) :=
  gIcmp X hx hd ho hp hn (fun q => kY (by simpa [if_icmp.holds, Int32.lt_iff_toInt_lt, Int32.le_iff_toInt_le] using q)) (fun q => kN (by simpa [if_icmp.holds, Int32.lt_iff_toInt_lt, Int32.le_iff_toInt_le] using q))
theorem gIfLe (X : Stand p l e R s m args below meth c T locs cells slots) (hx : p.tables.exec = Jvm.exec) {o : Int} {x : Int32} {pn : Nat} (hd : decode c.code pc = .ok (.ifCond .le o, 3)) (ho : 0 ≤ (pc : Int) + o) (hp : ((pc : Int) + o).toNat = pc') (hn : pc + 3 = pn) (kY : x.toInt ≤ (0 : Int) → Goes p e below F T (mkF m pc' ls st)) (kN : (0 : Int) < x.toInt → Goes p e below F T (mkF m pn ls st)) : Goes p e below F T (mkF m pc ls (.int x :: st)) :=
  gIf X hx hd ho hp hn (fun q => kY (by simpa [ifCond.holds, Int32.lt_iff_toInt_lt, Int32.le_iff_toInt_le] using q)) (fun q => kN (by simpa [ifCond.holds, Int32.lt_iff_toInt_lt, Int32.le_iff_toInt_le] using q))
theorem gIcmpEqT (X : Stand p l e R s m args below meth c T locs cells slots) (hx : p.tables.exec = Jvm.exec) {o : Int} {x y : Int32} {pn : Nat} (hd : decode c.code pc = .ok (.if_icmp .eq o, 3)) (ho : 0 ≤ (pc : Int) + o) (hp : ((pc : Int) + o).toNat = pc') (hn : pc + 3 = pn) (kY : x.toInt = y.toInt → Goes p e below F T (mkF m pc' ls st)) (kN : ¬ x.toInt = y.toInt → Goes p e below F T (mkF m pn ls st)) : Goes p e below F T (mkF m pc ls (.int y :: .int x :: st)) :=
  gIcmpEq X hx hd ho hp hn (fun q => kY ((Int32.toInt_inj (x := x) (y := y)).mpr q)) (fun q => kN (fun z => q ((Int32.toInt_inj (x := x) (y := y)).mp z)))
theorem gIfEqT (X : Stand p l e R s m args below meth c T locs cells slots) (hx : p.tables.exec = Jvm.exec) {o : Int} {x : Int32} {pn : Nat} (hd : decode c.code pc = .ok (.ifCond .eq o, 3)) (ho : 0 ≤ (pc : Int) + o) (hp : ((pc : Int) + o).toNat = pc') (hn : pc + 3 = pn) (kY : x.toInt = (0 : Int) → Goes p e below F T (mkF m pc' ls st)) (kN : ¬ x.toInt = (0 : Int) → Goes p e below F T (mkF m pn ls st)) : Goes p e below F T (mkF m pc ls (.int x :: st)) :=
  gIfEq X hx hd ho hp hn (fun q => kY ((Int32.toInt_inj (x := x) (y := 0)).mpr q)) (fun q => kN (fun z => q ((Int32.toInt_inj (x := x) (y := 0)).mp z)))
theorem gIcmpNeT (X : Stand p l e R s m args below meth c T locs cells slots) (hx : p.tables.exec = Jvm.exec) {o : Int} {x y : Int32} {pn : Nat} (hd : decode c.code pc = .ok (.if_icmp .ne o, 3)) (ho : 0 ≤ (pc : Int) + o) (hp : ((pc : Int) + o).toNat = pc') (hn : pc + 3 = pn) (kY : ¬ x.toInt = y.toInt → Goes p e below F T (mkF m pc' ls st)) (kN : x.toInt = y.toInt → Goes p e below F T (mkF m pn ls st)) : Goes p e below F T (mkF m pc ls (.int y :: .int x :: st)) :=
  gIcmpNe X hx hd ho hp hn (fun q => kY (fun z => q ((Int32.toInt_inj (x := x) (y := y)).mp z))) (fun q => kN ((Int32.toInt_inj (x := x) (y := y)).mpr q))
theorem gIfNeT (X : Stand p l e R s m args below meth c T locs cells slots) (hx : p.tables.exec = Jvm.exec) {o : Int} {x : Int32} {pn : Nat} (hd : decode c.code pc = .ok (.ifCond .ne o, 3)) (ho : 0 ≤ (pc : Int) + o) (hp : ((pc : Int) + o).toNat = pc') (hn : pc + 3 = pn) (kY : ¬ x.toInt = (0 : Int) → Goes p e below F T (mkF m pc' ls st)) (kN : x.toInt = (0 : Int) → Goes p e below F T (mkF m pn ls st)) : Goes p e below F T (mkF m pc ls (.int x :: st)) :=
  gIfNe X hx hd ho hp hn (fun q => kY (fun z => q ((Int32.toInt_inj (x := x) (y := 0)).mp z))) (fun q => kN ((Int32.toInt_inj (x := x) (y := 0)).mpr q))
theorem gAcmp (X : Stand p l e R s m args below meth c T locs cells slots) (hx : p.tables.exec = Jvm.exec) {cd : ClassFile.ACond} {o : Int} {x y : Value} {pn : Nat} (hd : decode c.code pc = .ok (.if_acmp cd o, 3)) (h1 : x.isRef = true) (h2 : y.isRef = true) (ho : 0 ≤ (pc : Int) + o) (hp : ((pc : Int) + o).toNat = pc') (hn : pc + 3 = pn) (kS : x = y → Goes p e below F T (mkF m (match cd with | .eq => pc' | .ne => pn) ls st)) (kD : ¬ x = y → Goes p e below F T (mkF m (match cd with | .eq => pn | .ne => pc') ls st)) : Goes p e below F T (mkF m pc ls (y :: x :: st)) := by
  subst hn hp
  by_cases q : x = y
  · refine Goes.fore (fun _ k => acmp X hx rfl h1 h2 (same := true) rfl hd rfl (decide_eq_true q) ho rfl k) ?_
    have := kS q; cases cd <;> simpa [acV] using this
  · refine Goes.fore (fun _ k => acmp X hx rfl h1 h2 (same := false) rfl hd rfl (decide_eq_false q) ho rfl k) ?_
    have := kD q; cases cd <;> simpa [acV] using this
theorem gAcmpEq (X : Stand p l e R s m args below meth c T locs cells slots) (hx : p.tables.exec = Jvm.exec) {o : Int} {x y : Value} {pn : Nat} (hd : decode c.code pc = .ok (.if_acmp .eq o, 3)) (h1 : x.isRef = true) (h2 : y.isRef = true) (ho : 0 ≤ (pc : Int) + o) (hp : ((pc : Int) + o).toNat = pc') (hn : pc + 3 = pn) (kY : x = y → Goes p e below F T (mkF m pc' ls st)) (kN : ¬ x = y → Goes p e below F T (mkF m pn ls st)) : Goes p e below F T (mkF m pc ls (y :: x :: st)) := gAcmp X hx hd h1 h2 ho hp hn kY kN
theorem gAcmpNe (X : Stand p l e R s m args below meth c T locs cells slots) (hx : p.tables.exec = Jvm.exec) {o : Int} {x y : Value} {pn : Nat} (hd : decode c.code pc = .ok (.if_acmp .ne o, 3)) (h1 : x.isRef = true) (h2 : y.isRef = true) (ho : 0 ≤ (pc : Int) + o) (hp : ((pc : Int) + o).toNat = pc') (hn : pc + 3 = pn) (kY : ¬ x = y → Goes p e below F T (mkF m pc' ls st)) (kN : x = y → Goes p e below F T (mkF m pn ls st)) : Goes p e below F T (mkF m pc ls (y :: x :: st)) := gAcmp X hx hd h1 h2 ho hp hn kN kY
theorem gIfnullZ (X : Stand p l e R s m args below meth c T locs cells slots) (hx : p.tables.exec = Jvm.exec) {o : Int} (hd : decode c.code pc = .ok (.ifnull o, 3)) (ho : 0 ≤ (pc : Int) + o) (hp : ((pc : Int) + o).toNat = pc') (k : Goes p e below F T (mkF m pc' ls st)) : Goes p e below F T (mkF m pc ls (.null :: st)) := Goes.fore (fun _ q => XS.ifnullYes X.here hx rfl rfl hd rfl ho hp q) k
theorem gIfnullR (X : Stand p l e R s m args below meth c T locs cells slots) (hx : p.tables.exec = Jvm.exec) {o : Int} {b : Addr} (hd : decode c.code pc = .ok (.ifnull o, 3)) (hp : pc + 3 = pc') (k : Goes p e below F T (mkF m pc' ls st)) : Goes p e below F T (mkF m pc ls (.ref b :: st)) := by
  subst hp; exact Goes.fore (fun _ q => XS.ifnullNo X.here hx rfl hd rfl q) k
theorem gIfnonnullZ (X : Stand p l e R s m args below meth c T locs cells slots) (hx : p.tables.exec = Jvm.exec) {o : Int} (hd : decode c.code pc = .ok (.ifnonnull o, 3)) (hp : pc + 3 = pc') (k : Goes p e below F T (mkF m pc' ls st)) : Goes p e below F T (mkF m pc ls (.null :: st)) := by
  subst hp; exact Goes.fore (fun _ q => XS.ifnonnullNo X.here hx rfl hd rfl q) k
theorem gIfnonnullR (X : Stand p l e R s m args below meth c T locs cells slots) (hx : p.tables.exec = Jvm.exec) {o : Int} {b : Addr} (hd : decode c.code pc = .ok (.ifnonnull o, 3)) (ho : 0 ≤ (pc : Int) + o) (hp : ((pc : Int) + o).toNat = pc') (k : Goes p e below F T (mkF m pc' ls st)) : Goes p e below F T (mkF m pc ls (.ref b :: st)) := Goes.fore (fun _ q => XS.ifnonnullYes X.here hx rfl rfl hd rfl ho hp q) k
theorem gRet0 {v : Option Value} (X : Stand p l e R s m args below meth c T locs cells slots) (hx : p.tables.exec = Jvm.exec) (hlk : meth.locks = false) (hv : meth.sig.returnType = none → v = none) (hk : cells ≤ kc) (hs : slots ≤ ks) (hq : Q v T.heap locs) {g : JFrame}
    (k : ∀ fs, (∀ (f : JFrame) (acts : List Action), f.method = m → f.locked = none → f.entered = [] → (doReturn e (T.setTop f) acts v).1 = T.setFrames fs) → Steps p.tables e below (T.setTop g) (T.setFrames fs)) : Goes p e below (FinN s kc ks Q) T g := by
  obtain ⟨fs, hr, hrun, hended, hW, hsame⟩ := X.leave hv hlk
  exact ⟨_, _, k fs hr, hrun, hended, _, _, rfl, hq, ⟨_, rfl⟩, hW, hsame.mono hk hs⟩
theorem gRetV (X : Stand p l e R s m args below meth c T locs cells slots) (hx : p.tables.exec = Jvm.exec) (hlk : meth.locks = false) (hret : meth.sig.returnType = none) (hd : decode c.code pc = .ok (.return_, 1)) (hk : cells ≤ kc) (hs : slots ≤ ks) (hq : Q none T.heap locs) : Goes p e below (FinN s kc ks Q) T (mkF m pc ls []) :=
  gRet0 X hx hlk (fun _ => rfl) hk hs hq fun fs hr => X.returnOut hx hret hd hr
theorem gRetN (X : Stand p l e R s m args below meth c T locs cells slots) (hx : p.tables.exec = Jvm.exec) (hlk : meth.locks = false) {t : FieldType} (hret : meth.sig.returnType = some t) (ht : t = .boolean ∨ t = .byte ∨ t = .char ∨ t = .short) {z w : Int32} (hd : decode c.code pc = .ok (.ireturn, 1)) (hw : nar t z = w) (hk : cells ≤ kc) (hs : slots ≤ ks) (hq : Q (some (.int w)) T.heap locs) : Goes p e below (FinN s kc ks Q) T (mkF m pc ls (.int z :: st)) := by
  subst hw
  exact gRet0 X hx hlk (fun h => by rw [hret] at h; cases h) hk hs hq fun fs hr => retN X hx hret ht hd hr
theorem gRetI (X : Stand p l e R s m args below meth c T locs cells slots) (hx : p.tables.exec = Jvm.exec) (hlk : meth.locks = false) (hret : meth.sig.returnType = some .int) {z : Int32} (hd : decode c.code pc = .ok (.ireturn, 1)) (hk : cells ≤ kc) (hs : slots ≤ ks) (hq : Q (some (.int z)) T.heap locs) : Goes p e below (FinN s kc ks Q) T (mkF m pc ls (.int z :: st)) :=
  gRet0 X hx hlk (fun h => by rw [hret] at h; cases h) hk hs hq fun fs hr => retOut X hx hret rfl (Or.inl ⟨rfl, Or.inl rfl, z, rfl⟩) hd hr
theorem gRetJ (X : Stand p l e R s m args below meth c T locs cells slots) (hx : p.tables.exec = Jvm.exec) (hlk : meth.locks = false) (hret : meth.sig.returnType = some .long) {z : Int64} (hd : decode c.code pc = .ok (.lreturn, 1)) (hk : cells ≤ kc) (hs : slots ≤ ks) (hq : Q (some (.long z)) T.heap locs) : Goes p e below (FinN s kc ks Q) T (mkF m pc ls (.long z :: st)) :=
  gRet0 X hx hlk (fun h => by rw [hret] at h; cases h) hk hs hq fun fs hr => retOut X hx hret rfl (Or.inr (Or.inl ⟨rfl, rfl, z, rfl⟩)) hd hr
theorem gRetA (X : Stand p l e R s m args below meth c T locs cells slots) (hx : p.tables.exec = Jvm.exec) (hlk : meth.locks = false) {t : FieldType} (hret : meth.sig.returnType = some t) (ht : t.isReference = true) {v : Value} (hv : v.isRef = true) (hd : decode c.code pc = .ok (.areturn, 1)) (hk : cells ≤ kc) (hs : slots ≤ ks) (hq : Q (some v) T.heap locs) : Goes p e below (FinN s kc ks Q) T (mkF m pc ls (v :: st)) :=
  gRet0 X hx hlk (fun h => by rw [hret] at h; cases h) hk hs hq fun fs hr => retOut X hx hret (by cases t <;> first | rfl | cases ht) (Or.inr (Or.inr (Or.inr (Or.inr ⟨rfl, ht, hv⟩)))) hd hr
theorem gGetS (X : Stand p l e R s m args below meth c T locs cells slots) (hx : p.tables.exec = Jvm.exec) (hZ : Z.Warmed39 s.vm) {own R0 O n d : String} {i : Nat} (hown : s.vm.findClass own = some m.cls) (w : (Jvm.Cond.fieldLink own i R0 n d).before a0 Z = true) (via : Via Z R0 O n d) (eT : T.heap = h) {v : Value} (Fa : Sta Z h O n d v) (hd : decode c.code pc = .ok (.getstatic i, 3)) (hp : pc + 3 = pc')
    (k : ∀ T', Stand p l e R s m args below meth c T' locs cells slots → T'.heap = h → Goes p e below F T' (mkF m pc' ls (v :: st))) : Goes p e below F T (mkF m pc ls st) := by
  subst hp
  obtain ⟨T', X', e', st'⟩ := getS X hx hZ (host := "") hown w via eT Fa (g := mkF m pc ls st) rfl hd
  exact Goes.fore st' (k T' X' e')
theorem gGetF (X : Stand p l e R s m args below meth c T locs cells slots) (hx : p.tables.exec = Jvm.exec) (hZ : Z.Warmed39 s.vm) {own R0 O n d : String} {i : Nat} (hown : s.vm.findClass own = some m.cls) (w : (Jvm.Cond.fieldLink own i R0 n d).before a0 Z = true) (via : Via Z R0 O n d) (eT : T.heap = h) {a : Addr} {v : Value} (Fa : Fld Z h a O n d v) (hd : decode c.code pc = .ok (.getfield i, 3)) (hp : pc + 3 = pc')
    (k : ∀ T', Stand p l e R s m args below meth c T' locs cells slots → T'.heap = h → Goes p e below F T' (mkF m pc' ls (v :: st))) : Goes p e below F T (mkF m pc ls (.ref a :: st)) := by
  subst hp
  obtain ⟨T', X', e', st'⟩ := getF X hx hZ (host := "") hown (Or.inl w) via eT Fa (g := mkF m pc ls (.ref a :: st)) rfl rfl hd
  exact Goes.fore st' (k T' X' e')
theorem gCallS (X : Stand p l e R s m args below meth c T locs cells slots) (hx : p.tables.exec = Jvm.exec) (hZ : Z.Warmed39 s.vm) {y : MethodName} {bytes : ByteArray} {maxL : Nat} {ret : Option FieldType} {rm : Room} {own : String} {i : Nat} {Qc : Option Value → Heap → List Loc → Prop} (hown : s.vm.findClass own = some m.cls) (eT : T.heap = h) (hml : ls.size = c.maxLocals)
    (w1 : (Jvm.Cond.methodLink own i y).before a0 Z = true) (w2 : (Jvm.Cond.static y).before a0 Z = true) (w3 : (Jvm.Cond.initialized y.cls).before a0 Z = true) (w4 : (Jvm.Cond.code y bytes maxL ret).before a0 Z = true) (hy : y.cls ≠ "java/lang/invoke/MethodHandle" ∧ y.cls ≠ "java/lang/invoke/VarHandle")
    {argsL : List Value} {stk : List Value} (hC : Ctr l Z y bytes maxL ret [] rm argsL.toArray h Qc) (hlen : ∀ sig, parseMethodDescriptor y.desc = some sig → argsL.length = sig.parameters.length) (hd : decode c.code pc = .ok (.invokestatic i, 3)) (hp : pc + 3 = pc') (hst : stk = argsL.reverse ++ st)
    (hf : rm.frames + 1 ≤ R.frames) {W : Nat} (hW : (st.map fun v => v.category).sum ≤ W) (hlo : W + (maxL + 11) + rm.locals ≤ R.locals) (hce : cells + rm.cells ≤ R.cells) (hsl : slots + rm.slots ≤ R.slots)
    (k : ∀ T' v L, Stand p l e R s m args below meth c T' (locs ++ L) (cells + rm.cells) (slots + rm.slots) → Qc v T'.heap L → Goes p e below F T' (mkF m pc' ls (v.toList ++ st))) : Goes p e below F T (mkF m pc ls stk) := by
  subst hp hst
  obtain ⟨v, _, ⟨T', L', k', n'⟩, -, X', ⟨Lc, hQ, l1, y1, z1⟩, st'⟩ := Jvm.LawKit.callS X hx (y := y) hown (mvT hZ w1) (mvT hZ w2) (mvT hZ w3) (mvT hZ w4) hy (backOf (W := W) hC hZ w4 w3 hf hlo) (g := mkF m pc ls (argsL.reverse ++ st)) rfl hml (argsL := argsL) (rest := st) hlen rfl (by show 2 * 0 + _ ≤ _; omega) hd (fun _ _ => ⟨rfl, eT, hce, hsl⟩)
  dsimp only [Pt.U, Pt.locs, Pt.cells, Pt.slots] at X' l1 y1 z1 st' hQ
  subst l1 y1 z1
  exact Goes.fore st' (k T' v Lc X' hQ)
theorem gCallSJ (X : Stand p l e R s m args below meth c T locs cells slots) (hx : p.tables.exec = Jvm.exec) (hZ : Z.Warmed39 s.vm) {y : MethodName} {bytes : ByteArray} {maxL : Nat} {ret : Option FieldType} {rm : Room} {own : String} {i : Nat} {w : Value} (hown : s.vm.findClass own = some m.cls) (eT : T.heap = h) (hml : ls.size = c.maxLocals)
    (w1 : (Jvm.Cond.methodLink own i y).before a0 Z = true) (w2 : (Jvm.Cond.static y).before a0 Z = true) (w3 : (Jvm.Cond.initialized y.cls).before a0 Z = true) (w4 : (Jvm.Cond.code y bytes maxL ret).before a0 Z = true) (hy : y.cls ≠ "java/lang/invoke/MethodHandle" ∧ y.cls ≠ "java/lang/invoke/VarHandle")
    {argsL : List Value} {stk : List Value} (hC : Ctr l Z y bytes maxL ret [] rm argsL.toArray h (Just h w)) (hlen : ∀ sig, parseMethodDescriptor y.desc = some sig → argsL.length = sig.parameters.length) (hd : decode c.code pc = .ok (.invokestatic i, 3)) (hp : pc + 3 = pc') (hst : stk = argsL.reverse ++ st)
    (h0c : rm.cells = 0) (h0s : rm.slots = 0) (hf : rm.frames + 1 ≤ R.frames) {W : Nat} (hW : (st.map fun v => v.category).sum ≤ W) (hlo : W + (maxL + 11) + rm.locals ≤ R.locals) (hce : cells + rm.cells ≤ R.cells) (hsl : slots + rm.slots ≤ R.slots)
    (k : ∀ T', Stand p l e R s m args below meth c T' locs cells slots → T'.heap = h → Goes p e below F T' (mkF m pc' ls (w :: st))) : Goes p e below F T (mkF m pc ls stk) := by
  refine gCallS X hx hZ hown eT hml w1 w2 w3 w4 hy hC hlen hd hp hst hf hW hlo hce hsl ?_
  rintro T' v L X' ⟨rfl, e', rfl⟩
  rw [List.append_nil, h0c, h0s] at X'
  exact k T' X' e'
theorem gCallV (X : Stand p l e R s m args below meth c T locs cells slots) (hx : p.tables.exec = Jvm.exec) (hZ : Z.Warmed39 s.vm) {y : MethodName} {bytes : ByteArray} {maxL : Nat} {ret : Option FieldType} {rm : Room} {own : String} {i : Nat} {Qc : Option Value → Heap → List Loc → Prop} {C : String} {a : Addr} (hown : s.vm.findClass own = some m.cls) (eT : T.heap = h) (hml : ls.size = c.maxLocals) (E : Exa Z h a C)
    (w1 : (Jvm.Cond.methodLink own i y).before a0 Z = true) (w2 : (Jvm.Cond.declares y).before a0 Z = true) (w5 : (Jvm.Cond.selects C y y).before a0 Z = true) (w6 : (Jvm.Cond.instanceMethod y).before a0 Z = true) (w3 : (Jvm.Cond.initialized y.cls).before a0 Z = true) (w4 : (Jvm.Cond.code y bytes maxL ret).before a0 Z = true) (hy : y.cls ≠ "java/lang/invoke/MethodHandle" ∧ y.cls ≠ "java/lang/invoke/VarHandle")
    {argsL : List Value} {stk : List Value} (hC : Ctr l Z y bytes maxL ret [] rm (.ref a :: argsL).toArray h Qc) (hlen : ∀ sig, parseMethodDescriptor y.desc = some sig → argsL.length = sig.parameters.length) (hd : decode c.code pc = .ok (.invokevirtual i, 3)) (hp : pc + 3 = pc') (hst : stk = argsL.reverse ++ .ref a :: st)
    (hf : rm.frames + 1 ≤ R.frames) {W : Nat} (hW : (st.map fun v => v.category).sum ≤ W) (hlo : W + (maxL + 11) + rm.locals ≤ R.locals) (hce : cells + rm.cells ≤ R.cells) (hsl : slots + rm.slots ≤ R.slots)
    (k : ∀ T' v L, Stand p l e R s m args below meth c T' (locs ++ L) (cells + rm.cells) (slots + rm.slots) → Qc v T'.heap L → Goes p e below F T' (mkF m pc' ls (v.toList ++ st))) : Goes p e below F T (mkF m pc ls stk) := by
  subst hp hst
  obtain ⟨cq, kq, qa, qb, qc⟩ := isOf hZ eT E
  obtain ⟨v, _, ⟨T', L', k', n'⟩, -, X', ⟨Lc, hQ, l1, y1, z1⟩, st'⟩ := X.virtualBack hx (y := y) (z := y) hown (mvT hZ w1) (mvT hZ w2) (notFace_of_selects (args := #[]) (mvT hZ w5)) (mvT hZ w5) (mvT hZ w6) hy (backOf (W := W) hC hZ w4 w3 hf hlo) qa qc (g := mkF m pc ls (argsL.reverse ++ .ref a :: st)) rfl hml (Steps.refl _) (argsL := argsL) (rest := st) hlen rfl (by show 2 * 0 + _ ≤ _; omega) hd (fun _ _ => ⟨rfl, eT, hce, hsl⟩)
  dsimp only [Pt.U, Pt.locs, Pt.cells, Pt.slots] at X' l1 y1 z1 st' hQ
  subst l1 y1 z1
  exact Goes.tr st' (k T' v Lc X' hQ)
theorem gCallVJ (X : Stand p l e R s m args below meth c T locs cells slots) (hx : p.tables.exec = Jvm.exec) (hZ : Z.Warmed39 s.vm) {y : MethodName} {bytes : ByteArray} {maxL : Nat} {ret : Option FieldType} {rm : Room} {own : String} {i : Nat} {w : Value} {C : String} {a : Addr} (hown : s.vm.findClass own = some m.cls) (eT : T.heap = h) (hml : ls.size = c.maxLocals) (E : Exa Z h a C)
    (w1 : (Jvm.Cond.methodLink own i y).before a0 Z = true) (w2 : (Jvm.Cond.declares y).before a0 Z = true) (w5 : (Jvm.Cond.selects C y y).before a0 Z = true) (w6 : (Jvm.Cond.instanceMethod y).before a0 Z = true) (w3 : (Jvm.Cond.initialized y.cls).before a0 Z = true) (w4 : (Jvm.Cond.code y bytes maxL ret).before a0 Z = true) (hy : y.cls ≠ "java/lang/invoke/MethodHandle" ∧ y.cls ≠ "java/lang/invoke/VarHandle")
    {argsL : List Value} {stk : List Value} (hC : Ctr l Z y bytes maxL ret [] rm (.ref a :: argsL).toArray h (Just h w)) (hlen : ∀ sig, parseMethodDescriptor y.desc = some sig → argsL.length = sig.parameters.length) (hd : decode c.code pc = .ok (.invokevirtual i, 3)) (hp : pc + 3 = pc') (hst : stk = argsL.reverse ++ .ref a :: st)
    (h0c : rm.cells = 0) (h0s : rm.slots = 0) (hf : rm.frames + 1 ≤ R.frames) {W : Nat} (hW : (st.map fun v => v.category).sum ≤ W) (hlo : W + (maxL + 11) + rm.locals ≤ R.locals) (hce : cells + rm.cells ≤ R.cells) (hsl : slots + rm.slots ≤ R.slots)
    (k : ∀ T', Stand p l e R s m args below meth c T' locs cells slots → T'.heap = h → Goes p e below F T' (mkF m pc' ls (w :: st))) : Goes p e below F T (mkF m pc ls stk) := by
  refine gCallV X hx hZ hown eT hml E w1 w2 w5 w6 w3 w4 hy hC hlen hd hp hst hf hW hlo hce hsl ?_
  rintro T' v L X' ⟨rfl, e', rfl⟩
  rw [List.append_nil, h0c, h0s] at X'
  exact k T' X' e'
theorem gLIfEq (X : Stand p l e R s m args below meth c T locs cells slots) (hx : p.tables.exec = Jvm.exec) {o : Int} {x y : Int64} {pn : Nat} (hd : decode c.code pc = .ok (.ifCond .eq o, 3)) (ho : 0 ≤ (pc : Int) + o) (hp : ((pc : Int) + o).toNat = pc') (hn : pc + 3 = pn) (kY : x = y → Goes p e below F T (mkF m pc' ls st)) (kN : ¬ x = y → Goes p e below F T (mkF m pn ls st)) : Goes p e below F T (mkF m pc ls (.int (lcmpW x y) :: st)) := by
  have z := lw_eq x y
  refine gIf X hx hd ho hp hn (fun q => kY ?_) (fun q => kN ?_) <;> simp only [ifCond.holds, decide_eq_true_eq, decide_eq_false_iff_not, beq_iff_eq, bne_iff_ne, Int32.not_lt, Int32.not_le, Int32.lt_iff_toInt_lt, Int32.le_iff_toInt_le, Int64.lt_iff_toInt_lt, ← Int32.toInt_inj, beq_eq_false_iff_ne, bne_eq_false_iff_eq, ne_eq] at q z ⊢ <;> first | exact z.mp q | exact fun k => q (z.mpr k) | omega
theorem gLIfNe (X : Stand p l e R s m args below meth c T locs cells slots) (hx : p.tables.exec = Jvm.exec) {o : Int} {x y : Int64} {pn : Nat} (hd : decode c.code pc = .ok (.ifCond .ne o, 3)) (ho : 0 ≤ (pc : Int) + o) (hp : ((pc : Int) + o).toNat = pc') (hn : pc + 3 = pn) (kY : ¬ x = y → Goes p e below F T (mkF m pc' ls st)) (kN : x = y → Goes p e below F T (mkF m pn ls st)) : Goes p e below F T (mkF m pc ls (.int (lcmpW x y) :: st)) := by
  have z := lw_eq x y
  refine gIf X hx hd ho hp hn (fun q => kY ?_) (fun q => kN ?_) <;> simp only [ifCond.holds, decide_eq_true_eq, decide_eq_false_iff_not, beq_iff_eq, bne_iff_ne, Int32.not_lt, Int32.not_le, Int32.lt_iff_toInt_lt, Int32.le_iff_toInt_le, Int64.lt_iff_toInt_lt, ← Int32.toInt_inj, beq_eq_false_iff_ne, bne_eq_false_iff_eq, ne_eq] at q z ⊢ <;> first | exact z.mp q | exact fun k => q (z.mpr k) | omega
theorem gLIfLt (X : Stand p l e R s m args below meth c T locs cells slots) (hx : p.tables.exec = Jvm.exec) {o : Int} {x y : Int64} {pn : Nat} (hd : decode c.code pc = .ok (.ifCond .lt o, 3)) (ho : 0 ≤ (pc : Int) + o) (hp : ((pc : Int) + o).toNat = pc') (hn : pc + 3 = pn) (kY : x.toInt < y.toInt → Goes p e below F T (mkF m pc' ls st)) (kN : y.toInt ≤ x.toInt → Goes p e below F T (mkF m pn ls st)) : Goes p e below F T (mkF m pc ls (.int (lcmpW x y) :: st)) := by
  have z := lw_lt x y
  refine gIf X hx hd ho hp hn (fun q => kY ?_) (fun q => kN ?_) <;> simp only [ifCond.holds, decide_eq_true_eq, decide_eq_false_iff_not, beq_iff_eq, bne_iff_ne, Int32.not_lt, Int32.not_le, Int32.lt_iff_toInt_lt, Int32.le_iff_toInt_le, Int64.lt_iff_toInt_lt, ← Int32.toInt_inj, beq_eq_false_iff_ne, bne_eq_false_iff_eq, ne_eq] at q z ⊢ <;> first | exact z.mp q | exact fun k => q (z.mpr k) | omega
theorem gLIfGe (X : Stand p l e R s m args below meth c T locs cells slots) (hx : p.tables.exec = Jvm.exec) {o : Int} {x y : Int64} {pn : Nat} (hd : decode c.code pc = .ok (.ifCond .ge o, 3)) (ho : 0 ≤ (pc : Int) + o) (hp : ((pc : Int) + o).toNat = pc') (hn : pc + 3 = pn) (kY : y.toInt ≤ x.toInt → Goes p e below F T (mkF m pc' ls st)) (kN : x.toInt < y.toInt → Goes p e below F T (mkF m pn ls st)) : Goes p e below F T (mkF m pc ls (.int (lcmpW x y) :: st)) := by
  have z := lw_lt x y
  refine gIf X hx hd ho hp hn (fun q => kY ?_) (fun q => kN ?_) <;> simp only [ifCond.holds, decide_eq_true_eq, decide_eq_false_iff_not, beq_iff_eq, bne_iff_ne, Int32.not_lt, Int32.not_le, Int32.lt_iff_toInt_lt, Int32.le_iff_toInt_le, Int64.lt_iff_toInt_lt, ← Int32.toInt_inj, beq_eq_false_iff_ne, bne_eq_false_iff_eq, ne_eq] at q z ⊢ <;> first | exact z.mp q | exact fun k => q (z.mpr k) | omega
theorem gLIfGt (X : Stand p l e R s m args below meth c T locs cells slots) (hx : p.tables.exec = Jvm.exec) {o : Int} {x y : Int64} {pn : Nat} (hd : decode c.code pc = .ok (.ifCond .gt o, 3)) (ho : 0 ≤ (pc : Int) + o) (hp : ((pc : Int) + o).toNat = pc') (hn : pc + 3 = pn) (kY : y.toInt < x.toInt → Goes p e below F T (mkF m pc' ls st)) (kN : x.toInt ≤ y.toInt → Goes p e below F T (mkF m pn ls st)) : Goes p e below F T (mkF m pc ls (.int (lcmpW x y) :: st)) := by
  have z := lw_gt x y
  refine gIf X hx hd ho hp hn (fun q => kY ?_) (fun q => kN ?_) <;> simp only [ifCond.holds, decide_eq_true_eq, decide_eq_false_iff_not, beq_iff_eq, bne_iff_ne, Int32.not_lt, Int32.not_le, Int32.lt_iff_toInt_lt, Int32.le_iff_toInt_le, Int64.lt_iff_toInt_lt, ← Int32.toInt_inj, beq_eq_false_iff_ne, bne_eq_false_iff_eq, ne_eq] at q z ⊢ <;> first | exact z.mp q | exact fun k => q (z.mpr k) | omega
theorem gLIfLe (X : Stand p l e R s m args below meth c T locs cells slots) (hx : p.tables.exec = Jvm.exec) {o : Int} {x y : Int64} {pn : Nat} (hd : decode c.code pc = .ok (.ifCond .le o, 3)) (ho : 0 ≤ (pc : Int) + o) (hp : ((pc : Int) + o).toNat = pc') (hn : pc + 3 = pn) (kY : x.toInt ≤ y.toInt → Goes p e below F T (mkF m pc' ls st)) (kN : y.toInt < x.toInt → Goes p e below F T (mkF m pn ls st)) : Goes p e below F T (mkF m pc ls (.int (lcmpW x y) :: st)) := by
  have z := lw_gt x y
  refine gIf X hx hd ho hp hn (fun q => kY ?_) (fun q => kN ?_) <;> simp only [ifCond.holds, decide_eq_true_eq, decide_eq_false_iff_not, beq_iff_eq, bne_iff_ne, Int32.not_lt, Int32.not_le, Int32.lt_iff_toInt_lt, Int32.le_iff_toInt_le, Int64.lt_iff_toInt_lt, ← Int32.toInt_inj, beq_eq_false_iff_ne, bne_eq_false_iff_eq, ne_eq] at q z ⊢ <;> first | exact z.mp q | exact fun k => q (z.mpr k) | omega
theorem gNew (X : Stand p l e R s m args below meth c T locs cells slots) (hx : p.tables.exec = Jvm.exec) (hZ : Z.Warmed39 s.vm) {own C : String} {i n : Nat} (hown : s.vm.findClass own = some m.cls) (w : (Jvm.Cond.classLink own i C).before a0 Z = true) (wi : (Jvm.Cond.instantiable C n).before a0 Z = true) (wz : (Jvm.Cond.initialized C).before a0 Z = true) (eT : T.heap = h) (hd : decode c.code pc = .ok (.new i, 3)) (hp : pc + 3 = pc') (hc : cells + 1 ≤ R.cells) (hl : slots + n ≤ R.slots)
    (k : ∀ T' h' b, Stand p l e R s m args below meth c T' locs (cells + 1) (slots + n) → T'.heap = h' → b = h.size → Ext h h' → Exa Z h' b C → (∀ {O nm d : String} {ty : FieldType}, Laid Z a0 C O nm d → parseFieldDescriptor d = some ty → Fld Z h' b O nm d (defaultValue ty)) → Goes p e below F T' (mkF m pc' ls (.ref b :: st))) : Goes p e below F T (mkF m pc ls st) := by
  subst hp
  obtain ⟨T', h', X', e', E, A, D, -, st'⟩ := newO X hx hZ hown w wi wz eT (g := mkF m pc ls st) rfl hd hc hl
  exact Goes.fore st' (k T' h' _ X' e' rfl E A D)
theorem gPutF (X : Stand p l e R s m args below meth c T locs cells slots) (hx : p.tables.exec = Jvm.exec) (hZ : Z.Warmed39 s.vm) {own R0 O n d C : String} {i kk : Nat} {ty : FieldType} (hown : s.vm.findClass own = some m.cls) (w : (Jvm.Cond.fieldLink own i R0 n d).before a0 Z = true) (via : Via Z R0 O n d) (eT : T.heap = h) {a : Addr} {v old : Value} (Fa : Fld Z h a O n d old) (E : Exa Z h a C) (L : (Jvm.Cond.lays C O n d).before a0 Z = true ∨ ((Jvm.Cond.laysFinal C O n d).before a0 Z = true ∧ own = O ∧ meth.name = "<init>")) (wi : (Jvm.Cond.instantiable C kk).before a0 Z = true)
    (hty : parseFieldDescriptor d = some ty) (hn : narrow ty v = v) (hf : fits ty v = true) (hd : decode c.code pc = .ok (.putfield i, 3)) (hp : pc + 3 = pc')
    (k : ∀ T' h', Stand p l e R s m args below meth c T' (locs ++ [⟨a, RoadKit.slotOf Z O n d⟩]) cells slots → T'.heap = h' → Wr h h' a (RoadKit.slotOf Z O n d) v → Goes p e below F T' (mkF m pc' ls st)) : Goes p e below F T (mkF m pc ls (v :: .ref a :: st)) := by
  subst hp
  obtain ⟨T', h', X', e', W, st'⟩ := putF X hx hZ (host := "") hown (Or.inl w) via eT Fa E L wi hty hn hf (g := mkF m pc ls (v :: .ref a :: st)) rfl rfl hd
  exact Goes.fore st' (k T' h' X' e' W)
theorem gInitO (X : Stand p l e R s m args below meth c T locs cells slots) (hx : p.tables.exec = Jvm.exec) (hZ : Z.Warmed39 s.vm) {own : String} {i : Nat} (hown : s.vm.findClass own = some m.cls) (w1 : (Jvm.Cond.methodLink own i Lib.objectInit).before a0 Z = true) (w2 : (Jvm.Cond.instanceMethod Lib.objectInit).before a0 Z = true) (w3 : (Jvm.Cond.code Lib.objectInit ⟨#[0xb1]⟩ 1 none).before a0 Z = true) (eT : T.heap = h) (hml : ls.size = c.maxLocals) {a : Addr} (hd : decode c.code pc = .ok (.invokespecial i, 3)) (hp : pc + 3 = pc') (hf : 1 ≤ R.frames) {W : Nat} (hW : (st.map fun v => v.category).sum ≤ W) (hl : W + 12 ≤ R.locals)
    (k : ∀ T', Stand p l e R s m args below meth c T' locs cells slots → T'.heap = h → Goes p e below F T' (mkF m pc' ls st)) : Goes p e below F T (mkF m pc ls (.ref a :: st)) := by
  subst hp
  obtain ⟨T', X', e', st'⟩ := initO X hx hZ hown w1 w2 w3 eT (g := mkF m pc ls (.ref a :: st)) rfl hml rfl hd hf (W := W) (by show 2 * 0 + _ ≤ _; omega) hl
  exact Goes.fore st' (k T' X' e')
theorem gCallI (X : Stand p l e R s m args below meth c T locs cells slots) (hx : p.tables.exec = Jvm.exec) (hZ : Z.Warmed39 s.vm) {y : MethodName} {bytes : ByteArray} {maxL : Nat} {rm : Room} {own : String} {i : Nat} {Qc : Option Value → Heap → List Loc → Prop} {a : Addr} (hy1 : y.name = "<init>") (hown : s.vm.findClass own = some m.cls) (eT : T.heap = h) (hml : ls.size = c.maxLocals)
    (w1 : (Jvm.Cond.methodLink own i y).before a0 Z = true) (w2 : (Jvm.Cond.instanceMethod y).before a0 Z = true) (w3 : (Jvm.Cond.initialized y.cls).before a0 Z = true) (w4 : (Jvm.Cond.code y bytes maxL none).before a0 Z = true) (hy : y.cls ≠ "java/lang/invoke/MethodHandle" ∧ y.cls ≠ "java/lang/invoke/VarHandle")
    {argsL : List Value} {stk : List Value} (hC : Ctr l Z y bytes maxL none [] rm (.ref a :: argsL).toArray h Qc) (hlen : ∀ sig, parseMethodDescriptor y.desc = some sig → argsL.length = sig.parameters.length) (hd : decode c.code pc = .ok (.invokespecial i, 3)) (hp : pc + 3 = pc') (hst : stk = argsL.reverse ++ .ref a :: st)
    (hf : rm.frames + 1 ≤ R.frames) {W : Nat} (hW : (st.map fun v => v.category).sum ≤ W) (hlo : W + (maxL + 11) + rm.locals ≤ R.locals) (hce : cells + rm.cells ≤ R.cells) (hsl : slots + rm.slots ≤ R.slots)
    (k : ∀ T' v L, Stand p l e R s m args below meth c T' (locs ++ L) (cells + rm.cells) (slots + rm.slots) → Qc v T'.heap L → Goes p e below F T' (mkF m pc' ls (v.toList ++ st))) : Goes p e below F T (mkF m pc ls stk) := by
  subst hp hst
  obtain ⟨v, _, ⟨T', L', k', n'⟩, -, X', ⟨Lc, hQ, l1, y1, z1⟩, st'⟩ := X.specialBack hx (y := y) hy1 hown (mvT hZ w1) (mvT hZ w2) (mvT hZ w4) hy (backOf (W := W) hC hZ w4 w3 hf hlo) (g := mkF m pc ls (argsL.reverse ++ .ref a :: st)) rfl hml (Steps.refl _) (a := a) (argsL := argsL) (rest := st) hlen rfl (by show 2 * 0 + _ ≤ _; omega) hd (fun _ _ => ⟨rfl, eT, hce, hsl⟩)
  dsimp only [Pt.U, Pt.locs, Pt.cells, Pt.slots] at X' l1 y1 z1 st' hQ
  subst l1 y1 z1
  exact Goes.tr st' (k T' v Lc X' hQ)
end OwnLayer
/-- a boolean as the machine holds it -/
def b2i (b : Bool) : Int32 := if b then 1 else 0
theorem b2_t {P : Prop} [Decidable P] (h : P) : b2i (decide P) = 1 := by simp [b2i, h]
theorem b2_f {P : Prop} [Decidable P] (h : ¬ P) : b2i (decide P) = 0 := by simp [b2i, h]
theorem b2_0 {b : Bool} : b2i b = 0 ↔ b = false := by cases b <;> simp [b2i]
theorem b2_n0 {b : Bool} : ¬ b2i b = 0 ↔ b = true := by cases b <;> simp [b2i]
theorem b2_inj {a b : Bool} : b2i a = b2i b ↔ a = b := by cases a <;> cases b <;> simp [b2i]
theorem b2_nar {b : Bool} : nar .boolean (b2i b) = b2i b := by cases b <;> rfl
theorem just_t {h0 h : Heap} {P : Prop} [Decidable P] (q : P) (e : h = h0) : Just h0 (.int (b2i (decide P))) (some (.int 1)) h [] := ⟨by rw [b2_t q], e, rfl⟩
theorem just_f {h0 h : Heap} {P : Prop} [Decidable P] (q : ¬ P) (e : h = h0) : Just h0 (.int (b2i (decide P))) (some (.int 0)) h [] := ⟨by rw [b2_f q], e, rfl⟩
/-- the law returns 1; what it wrote is new -/
def Law1 (h0 : Heap) (v : Option Value) (h : Heap) (L : List Loc) : Prop := v = some (.int 1) ∧ Fr h0.size L
section OwnArrays
variable {p : Program} {l : Launch} {e : Env} {R : Room} {s : State} {m : MethodId} {args : Array Value} {below : List Frame} {meth : Method} {c : Code} {T : State} {locs : List Loc} {cells slots : Nat}
variable {F : State → Outcome → Prop} {pc pc' : Nat} {ls : Array Slot} {st : List Value} {Z : State} {a0 : Array Value} {h : Heap} {a : Addr} {ck : ClassId} {n j : Int32} {vs : List Value} {dv : Value}
theorem gIaload (X : Stand p l e R s m args below meth c T locs cells slots) (hx : p.tables.exec = Jvm.exec) (hZ : Z.Warmed39 s.vm) (eT : T.heap = h) {v : Value} (A : Arv Z h a ck .int n vs dv) (h0 : ¬ j < 0) (h1 : j < n) (hv : vs.getD j.toNatClampNeg dv = v) (hd : decode c.code pc = .ok (.iaload, 1)) (hp : pc + 1 = pc') (k : Goes p e below F T (mkF m pc' ls (v :: st))) : Goes p e below F T (mkF m pc ls (.int j :: .ref a :: st)) := by
  subst hp
  obtain ⟨cl, Ar, q, S, N, H, _⟩ := A
  have hin := inb_of S ⟨h0, h1⟩
  exact Goes.fore (fun t q => X.iaload hx (j := j) (v := v) (by rw [eT]; exact Ar.1) (State.isArrayOf_alike hZ.alike Ar.2.1) Ar.2.2 hin (Has.at H hin hv) (g := mkF m pc ls (.int j :: .ref a :: st)) rfl rfl hd t q) k
theorem gCaload (X : Stand p l e R s m args below meth c T locs cells slots) (hx : p.tables.exec = Jvm.exec) (hZ : Z.Warmed39 s.vm) (eT : T.heap = h) {v : Value} (A : Arv Z h a ck .char n vs dv) (h0 : ¬ j < 0) (h1 : j < n) (hv : vs.getD j.toNatClampNeg dv = v) (hd : decode c.code pc = .ok (.caload, 1)) (hp : pc + 1 = pc') (k : Goes p e below F T (mkF m pc' ls (v :: st))) : Goes p e below F T (mkF m pc ls (.int j :: .ref a :: st)) := by
  subst hp
  obtain ⟨cl, Ar, q, S, N, H, _⟩ := A
  have hin := inb_of S ⟨h0, h1⟩
  exact Goes.fore (fun t q => X.caload hx (j := j) (v := v) (by rw [eT]; exact Ar.1) (State.isArrayOf_alike hZ.alike Ar.2.1) Ar.2.2 hin (Has.at H hin hv) (g := mkF m pc ls (.int j :: .ref a :: st)) rfl rfl hd t q) k
theorem gLaload (X : Stand p l e R s m args below meth c T locs cells slots) (hx : p.tables.exec = Jvm.exec) (hZ : Z.Warmed39 s.vm) (eT : T.heap = h) {v : Value} (A : Arv Z h a ck .long n vs dv) (h0 : ¬ j < 0) (h1 : j < n) (hv : vs.getD j.toNatClampNeg dv = v) (hd : decode c.code pc = .ok (.laload, 1)) (hp : pc + 1 = pc') (k : Goes p e below F T (mkF m pc' ls (v :: st))) : Goes p e below F T (mkF m pc ls (.int j :: .ref a :: st)) := by
  subst hp
  obtain ⟨cl, Ar, q, S, N, H, _⟩ := A
  have hin := inb_of S ⟨h0, h1⟩
  exact Goes.fore (fun t q => X.laload hx (j := j) (v := v) (by rw [eT]; exact Ar.1) (State.isArrayOf_alike hZ.alike Ar.2.1) Ar.2.2 hin (Has.at H hin hv) (g := mkF m pc ls (.int j :: .ref a :: st)) rfl rfl hd t q) k
theorem gBaload (X : Stand p l e R s m args below meth c T locs cells slots) (hx : p.tables.exec = Jvm.exec) (hZ : Z.Warmed39 s.vm) (eT : T.heap = h) {v : Value} (A : Arv Z h a ck .byte n vs dv) (h0 : ¬ j < 0) (h1 : j < n) (hv : vs.getD j.toNatClampNeg dv = v) (hd : decode c.code pc = .ok (.baload, 1)) (hp : pc + 1 = pc') (k : Goes p e below F T (mkF m pc' ls (v :: st))) : Goes p e below F T (mkF m pc ls (.int j :: .ref a :: st)) := by
  subst hp
  obtain ⟨cl, Ar, q, S, N, H, _⟩ := A
  have hin := inb_of S ⟨h0, h1⟩
  exact Goes.fore (fun t q => X.baloadBytes hx (j := j) (v := v) (by rw [eT]; exact Ar.1) (State.isArrayOf_alike hZ.alike Ar.2.1) Ar.2.2 hin (Has.at H hin hv) (g := mkF m pc ls (.int j :: .ref a :: st)) rfl rfl hd t q) k
theorem gAaload (X : Stand p l e R s m args below meth c T locs cells slots) (hx : p.tables.exec = Jvm.exec) (hZ : Z.Warmed39 s.vm) (eT : T.heap = h) {v : Value} {ty : FieldType} (hty : ty.isReference = true) (A : Arv Z h a ck ty n vs dv) (h0 : ¬ j < 0) (h1 : j < n) (hv : vs.getD j.toNatClampNeg dv = v) (hd : decode c.code pc = .ok (.aaload, 1)) (hp : pc + 1 = pc') (k : Goes p e below F T (mkF m pc' ls (v :: st))) : Goes p e below F T (mkF m pc ls (.int j :: .ref a :: st)) := by
  subst hp
  obtain ⟨cl, Ar, q, S, N, H, _⟩ := A
  have hin := inb_of S ⟨h0, h1⟩
  exact Goes.fore (fun t q => X.aaload hx (j := j) (v := v) (by rw [eT]; exact Ar.1) (State.isArrayOf_alike hZ.alike Ar.2.1) hty Ar.2.2 hin (Has.at H hin hv) (g := mkF m pc ls (.int j :: .ref a :: st)) rfl rfl hd t q) k
theorem gArrLen (X : Stand p l e R s m args below meth c T locs cells slots) (hx : p.tables.exec = Jvm.exec) (hZ : Z.Warmed39 s.vm) (eT : T.heap = h) {ty : FieldType} (A : Arv Z h a ck ty n vs dv) (hd : decode c.code pc = .ok (.arraylength, 1)) (hp : pc + 1 = pc') (k : Goes p e below F T (mkF m pc' ls (.int n :: st))) : Goes p e below F T (mkF m pc ls (.ref a :: st)) := by
  subst hp
  obtain ⟨cl, Ar, q, S, N, H, _⟩ := A
  refine Goes.fore (fun t q => X.arraylength hx (by rw [eT]; exact Ar.1) (State.isArrayOf_alike hZ.alike Ar.2.1) (g := mkF m pc ls (.ref a :: st)) rfl rfl hd t q) ?_
  rw [len_of S N]; exact k
theorem gIastore (X : Stand p l e R s m args below meth c T locs cells slots) (hx : p.tables.exec = Jvm.exec) (hZ : Z.Warmed39 s.vm) (eT : T.heap = h) {x : Int32} (A : Arv Z h a ck .int n vs dv) (h0 : ¬ j < 0) (h1 : j < n) (i : Nat) (hj : j.toNatClampNeg = i) (hi : i < vs.length) (hd : decode c.code pc = .ok (.iastore, 1)) (hp : pc + 1 = pc')
    (k : ∀ T' h', Stand p l e R s m args below meth c T' (locs ++ [⟨a, j.toNatClampNeg⟩]) cells slots → T'.heap = h' → Wr h h' a j.toNatClampNeg (.int x) → Arv Z h' a ck .int n (vs.set i (.int x)) dv → Goes p e below F T' (mkF m pc' ls st)) : Goes p e below F T (mkF m pc ls (.int x :: .int j :: .ref a :: st)) := by
  subst hp
  obtain ⟨cl, Ar, q, S, N, H, Gt⟩ := A
  obtain ⟨T', h', X', e', W, st'⟩ := stI X hx hZ eT Ar (j := j) (inb_of S ⟨h0, h1⟩) (g := mkF m pc ls (.int x :: .int j :: .ref a :: st)) rfl rfl hd
  exact Goes.fore st' (k T' h' X' e' W (Arv.set Ar q S N H Gt rfl W i hj hi))
theorem gCastore (X : Stand p l e R s m args below meth c T locs cells slots) (hx : p.tables.exec = Jvm.exec) (hZ : Z.Warmed39 s.vm) (eT : T.heap = h) {x : Int32} (A : Arv Z h a ck .char n vs dv) (h0 : ¬ j < 0) (h1 : j < n) (i : Nat) (hj : j.toNatClampNeg = i) (hi : i < vs.length) (hd : decode c.code pc = .ok (.castore, 1)) (hp : pc + 1 = pc')
    (k : ∀ T' h', Stand p l e R s m args below meth c T' (locs ++ [⟨a, j.toNatClampNeg⟩]) cells slots → T'.heap = h' → Wr h h' a j.toNatClampNeg (.int (nar .char x)) → Arv Z h' a ck .char n (vs.set i (.int (nar .char x))) dv → Goes p e below F T' (mkF m pc' ls st)) : Goes p e below F T (mkF m pc ls (.int x :: .int j :: .ref a :: st)) := by
  subst hp
  obtain ⟨cl, Ar, q, S, N, H, Gt⟩ := A
  obtain ⟨T', h', X', e', W, st'⟩ := stC X hx hZ eT Ar (j := j) (inb_of S ⟨h0, h1⟩) (g := mkF m pc ls (.int x :: .int j :: .ref a :: st)) rfl rfl hd
  exact Goes.fore st' (k T' h' X' e' W (Arv.set Ar q S N H Gt (fits_nar_char _) W i hj hi))
theorem gBastore (X : Stand p l e R s m args below meth c T locs cells slots) (hx : p.tables.exec = Jvm.exec) (hZ : Z.Warmed39 s.vm) (eT : T.heap = h) {x : Int32} (A : Arv Z h a ck .byte n vs dv) (h0 : ¬ j < 0) (h1 : j < n) (i : Nat) (hj : j.toNatClampNeg = i) (hi : i < vs.length) (hd : decode c.code pc = .ok (.bastore, 1)) (hp : pc + 1 = pc')
    (k : ∀ T' h', Stand p l e R s m args below meth c T' (locs ++ [⟨a, j.toNatClampNeg⟩]) cells slots → T'.heap = h' → Wr h h' a j.toNatClampNeg (.int (nar .byte x)) → Arv Z h' a ck .byte n (vs.set i (.int (nar .byte x))) dv → Goes p e below F T' (mkF m pc' ls st)) : Goes p e below F T (mkF m pc ls (.int x :: .int j :: .ref a :: st)) := by
  subst hp
  obtain ⟨cl, Ar, q, S, N, H, Gt⟩ := A
  obtain ⟨T', h', X', e', W, st'⟩ := stB X hx hZ eT Ar (j := j) (inb_of S ⟨h0, h1⟩) (g := mkF m pc ls (.int x :: .int j :: .ref a :: st)) rfl rfl hd
  exact Goes.fore st' (k T' h' X' e' W (Arv.set Ar q S N H Gt (fits_nar_byte _) W i hj hi))
theorem gLastore (X : Stand p l e R s m args below meth c T locs cells slots) (hx : p.tables.exec = Jvm.exec) (hZ : Z.Warmed39 s.vm) (eT : T.heap = h) {x : Int64} (A : Arv Z h a ck .long n vs dv) (h0 : ¬ j < 0) (h1 : j < n) (i : Nat) (hj : j.toNatClampNeg = i) (hi : i < vs.length) (hd : decode c.code pc = .ok (.lastore, 1)) (hp : pc + 1 = pc')
    (k : ∀ T' h', Stand p l e R s m args below meth c T' (locs ++ [⟨a, j.toNatClampNeg⟩]) cells slots → T'.heap = h' → Wr h h' a j.toNatClampNeg (.long x) → Arv Z h' a ck .long n (vs.set i (.long x)) dv → Goes p e below F T' (mkF m pc' ls st)) : Goes p e below F T (mkF m pc ls (.long x :: .int j :: .ref a :: st)) := by
  subst hp
  obtain ⟨cl, Ar, q, S, N, H, Gt⟩ := A
  obtain ⟨T', h', X', e', W, st'⟩ := stJ X hx hZ eT Ar (j := j) (inb_of S ⟨h0, h1⟩) (g := mkF m pc ls (.long x :: .int j :: .ref a :: st)) rfl rfl hd
  exact Goes.fore st' (k T' h' X' e' W (Arv.set Ar q S N H Gt rfl W i hj hi))
theorem gNewP (X : Stand p l e R s m args below meth c T locs cells slots) (hx : p.tables.exec = Jvm.exec) (hZ : Z.Warmed39 s.vm) {aty : ArrayType} (w : (Jvm.Cond.arrayClass (newarray.typeOf aty)).before a0 Z = true) (eT : T.heap = h) (hd : decode c.code pc = .ok (.newarray aty, 2)) (hn : ¬ n < 0) {cap : Nat} (hcap : n.toNatClampNeg ≤ cap) (hb : cap * 8 ≤ 536870912) (hc : cells + 1 ≤ R.cells) (hl : slots + cap ≤ R.slots) (N : Nat) (hp : pc + 2 = pc')
    (k : ∀ T' h' b cA, Stand p l e R s m args below meth c T' locs (cells + 1) (slots + cap) → T'.heap = h' → b = h.size → Ext h h' → Arv Z h' b cA (newarray.typeOf aty) n (List.replicate N (defaultValue (newarray.typeOf aty))) (defaultValue (newarray.typeOf aty)) → Goes p e below F T' (mkF m pc' ls (.ref b :: st))) : Goes p e below F T (mkF m pc ls (.int n :: st)) := by
  subst hp
  obtain ⟨T', h', cA, X', e', E, A, st'⟩ := newP X hx hZ w eT (g := mkF m pc ls (.int n :: st)) rfl hd rfl hn hcap hb hc hl
  exact Goes.fore st' (k T' h' _ cA X' e' rfl E ((Arv.new A hn).pad (pad_rep [] _ N)))
theorem gCast (X : Stand p l e R s m args below meth c T locs cells slots) (hx : p.tables.exec = Jvm.exec) (hZ : Z.Warmed39 s.vm) {own K : String} {i : Nat} (hown : s.vm.findClass own = some m.cls) (w : (Jvm.Cond.classLink own i K).before a0 Z = true) (eT : T.heap = h) (I : Ins Z h a K true) (hd : decode c.code pc = .ok (.checkcast i, 3)) (hp : pc + 3 = pc')
    (k : ∀ T', Stand p l e R s m args below meth c T' locs cells slots → T'.heap = h → Goes p e below F T' (mkF m pc' ls (.ref a :: st))) : Goes p e below F T (mkF m pc ls (.ref a :: st)) := by
  subst hp
  obtain ⟨T', X', e', st'⟩ := castY X hx hZ hown w eT I (g := mkF m pc ls (.ref a :: st)) rfl rfl hd
  exact Goes.fore st' (k T' X' e')
theorem gClone (X : Stand p l e R s m args below meth c T locs cells slots) (hx : p.tables.exec = Jvm.exec) (hZ : Z.Warmed39 s.vm) {own ad : String} {i : Nat} (hown : s.vm.findClass own = some m.cls) (w1 : (Jvm.Cond.methodLink own i ⟨ad, "clone", "()Ljava/lang/Object;"⟩).before a0 Z = true) (w2 : (Jvm.Cond.sameMethod ad "java/lang/Object" "clone" "()Ljava/lang/Object;").before a0 Z = true) (w3 : (Jvm.Cond.native ⟨"java/lang/Object", "clone", "()Ljava/lang/Object;"⟩).before a0 Z = true)
    (w4 : (Jvm.Cond.instanceMethod ⟨"java/lang/Object", "clone", "()Ljava/lang/Object;"⟩).before a0 Z = true) (w5 : (Jvm.Cond.selects ad ⟨ad, "clone", "()Ljava/lang/Object;"⟩ ⟨"java/lang/Object", "clone", "()Ljava/lang/Object;"⟩).before a0 Z = true) (w6 : (Jvm.Cond.castable ad "java/lang/Cloneable").before a0 Z = true) {ty : FieldType}
    (eT : T.heap = h) (A : Arv Z h a ck ty n vs dv) (E : Exa Z h a ad) (hml : ls.size = c.maxLocals) (hd : decode c.code pc = .ok (.invokevirtual i, 3)) (hf : 1 ≤ R.frames) {W cap : Nat} (hW : (st.map fun v => v.category).sum ≤ W) (hlo : W + 14 ≤ R.locals) (hcap : n.toNatClampNeg ≤ cap) (hc : cells + 1 ≤ R.cells) (hsl : slots + cap ≤ R.slots) (hp : pc + 3 = pc')
    (k : ∀ T' h' b, Stand p l e R s m args below meth c T' locs (cells + 1) (slots + cap) → T'.heap = h' → b = h.size → Ext h h' → Arv Z h' b ck ty n vs dv → Exa Z h' b ad → Goes p e below F T' (mkF m pc' ls (.ref b :: st))) : Goes p e below F T (mkF m pc ls (.ref a :: st)) := by
  subst hp
  obtain ⟨T', h', X', e', E', A', Ex, st'⟩ := cloneH X hx hZ hown w1 w2 w3 w4 w5 w6 eT A.arh E (g := mkF m pc ls (.ref a :: st)) rfl hml rfl hd hf (W := W) (cap := cap) (by show 2 * 0 + _ ≤ _; omega) hlo hcap hc hsl
  exact Goes.fore st' (k T' h' _ X' e' rfl E' A' Ex)
theorem gArrCopy (X : Stand p l e R s m args below meth c T locs cells slots) (hx : p.tables.exec = Jvm.exec) (hZ : Z.Warmed39 s.vm) {own : String} {i : Nat} (hown : s.vm.findClass own = some m.cls) (w1 : (Jvm.Cond.methodLink own i Jvm.Stand.acN).before a0 Z = true) (w2 : (Jvm.Cond.native Jvm.Stand.acN).before a0 Z = true) (w3 : (Jvm.Cond.static Jvm.Stand.acN).before a0 Z = true) (w4 : (Jvm.Cond.initialized "java/lang/System").before a0 Z = true) (eT : T.heap = h)
    {b : Addr} {cb : ClassId} {ty : FieldType} {n' sp dp nn : Int32} {vd : List Value} {dd : Value} (A : Arv Z h a ck ty n vs dv) (B : Arv Z h b cb ty n' vd dd) (hty : refKind ty = false) (h1 : ¬ sp < 0) (h2 : ¬ dp < 0) (h3 : ¬ nn < 0) (h4 : sp.toNatClampNeg + nn.toNatClampNeg ≤ n.toNatClampNeg) (h5 : dp.toNatClampNeg + nn.toNatClampNeg ≤ n'.toNatClampNeg) (hl : dp.toNatClampNeg + nn.toNatClampNeg ≤ vd.length) {n0 : Nat} (N : Fr n0 locs) (ge : n0 ≤ b)
    (hml : ls.size = c.maxLocals) (hd : decode c.code pc = .ok (.invokestatic i, 3)) (hp : pc + 3 = pc') (hf : 1 ≤ R.frames) {W : Nat} (hW : (st.map fun v => v.category).sum ≤ W) (hlo : W + (nativeFrameWords "java/lang/System" "arraycopy" 5 + 11) ≤ R.locals)
    (k : ∀ T' h' L, Stand p l e R s m args below meth c T' L cells slots → T'.heap = h' → Fr n0 L → Keep h h' [b] → Arv Z h' b cb ty n' (vd.take dp.toNatClampNeg ++ ((List.range nn.toNatClampNeg).map fun i => vs.getD (sp.toNatClampNeg + i) dv) ++ vd.drop (dp.toNatClampNeg + nn.toNatClampNeg)) dd → Goes p e below F T' (mkF m pc' ls st)) : Goes p e below F T (mkF m pc ls (.int nn :: .int dp :: .ref b :: .int sp :: .ref a :: st)) := by
  subst hp
  obtain ⟨T', h', L, X', e', N', K, A', st'⟩ := cpA X hx hZ hown w1 w2 w3 w4 eT A B (Or.inl ⟨rfl, hty⟩) h1 h2 h3 h4 h5 rfl hl N ge (g := mkF m pc ls (.int nn :: .int dp :: .ref b :: .int sp :: .ref a :: st)) rfl hml rfl hd hf (W := W) (by show 2 * 0 + _ ≤ _; omega) hlo
  exact Goes.fore st' (k T' h' L X' e' N' K A')
theorem gCallP (X : Stand p l e R s m args below meth c T locs cells slots) (hx : p.tables.exec = Jvm.exec) (hZ : Z.Warmed39 s.vm) {y : MethodName} {bytes : ByteArray} {maxL : Nat} {ret : Option FieldType} {rm : Room} {own : String} {i kk : Nat} {Qc : Option Value → Heap → List Loc → Prop} (hown : s.vm.findClass own = some m.cls) (eT : T.heap = h) (hml : ls.size = c.maxLocals) (E : Exa Z h a y.cls)
    (w1 : (Jvm.Cond.methodLink own i y).before a0 Z = true) (w6 : (Jvm.Cond.instanceMethod y).before a0 Z = true) (w5 : (Jvm.Cond.privateMethod y).before a0 Z = true) (wi : (Jvm.Cond.instantiable y.cls kk).before a0 Z = true) (w3 : (Jvm.Cond.initialized y.cls).before a0 Z = true) (w4 : (Jvm.Cond.code y bytes maxL ret).before a0 Z = true) (hy : y.cls ≠ "java/lang/invoke/MethodHandle" ∧ y.cls ≠ "java/lang/invoke/VarHandle")
    {argsL : List Value} {stk : List Value} (hC : Ctr l Z y bytes maxL ret [] rm (.ref a :: argsL).toArray h Qc) (hlen : ∀ sig, parseMethodDescriptor y.desc = some sig → argsL.length = sig.parameters.length) (hd : decode c.code pc = .ok (.invokevirtual i, 3)) (hp : pc + 3 = pc') (hst : stk = argsL.reverse ++ .ref a :: st)
    (hf : rm.frames + 1 ≤ R.frames) {W : Nat} (hW : (st.map fun v => v.category).sum ≤ W) (hlo : W + (maxL + 11) + rm.locals ≤ R.locals) (hce : cells + rm.cells ≤ R.cells) (hsl : slots + rm.slots ≤ R.slots)
    (k : ∀ T' v L, Stand p l e R s m args below meth c T' (locs ++ L) (cells + rm.cells) (slots + rm.slots) → Qc v T'.heap L → Goes p e below F T' (mkF m pc' ls (v.toList ++ st))) : Goes p e below F T (mkF m pc ls stk) := by
  subst hp hst
  obtain ⟨cq, q1, q2⟩ := E.cell
  have hpr : s.PrivateAt y := Cond.privateMethod_at (mvP hZ w5 (args := #[]))
  obtain ⟨cc, kc, hc1, hk1, -, hni, -, -⟩ := Cond.instantiable_spec (mvT (args := args) hZ wi)
  have hsel : (Jvm.Cond.selects y.cls y y).before args s = true := Jvm.Stand.selects_self_of_private hc1 hk1 (Bool.or_eq_false_iff.mp hni).1 hpr (mvT hZ w6) hy
  obtain ⟨v, _, ⟨T', L', k', n'⟩, -, X', ⟨Lc, hQ, l1, y1, z1⟩, st'⟩ := X.privateBack hx (y := y) hown (mvT hZ w1) (mvT hZ w6) hsel hpr (mvT hZ w4) hy (backOf (W := W) hC hZ w4 w3 hf hlo) (g := mkF m pc ls (argsL.reverse ++ .ref a :: st)) rfl hml (Steps.refl _) (a := a) (by rw [eT]; exact q1) q2 (argsL := argsL) (rest := st) hlen rfl (by show 2 * 0 + _ ≤ _; omega) hd (fun _ _ => ⟨rfl, eT, hce, hsl⟩)
  dsimp only [Pt.U, Pt.locs, Pt.cells, Pt.slots] at X' l1 y1 z1 st' hQ
  subst l1 y1 z1
  exact Goes.tr st' (k T' v Lc X' hQ)
end OwnArrays
section OwnWide
variable {p : Program} {l : Launch} {e : Env} {R : Room} {s : State} {m : MethodId} {args : Array Value} {below : List Frame} {meth : Method} {c : Code} {T : State} {locs : List Loc} {cells slots : Nat}
variable {F : State → Outcome → Prop} {kc ks : Nat} {Q : Option Value → Heap → List Loc → Prop} {pc pc' : Nat} {ls : Array Slot} {st : List Value} {Z : State} {a0 : Array Value} {h : Heap} {EL : List (String × Nat)} {vm0 : Vm} {k0 : Nat}
/-- it returns, Q holds, the frame is the wide one, and what is booked of the constants EL says its text still -/
def FinH (Z : State) (EL : List (String × Nat)) (s : State) (kc ks : Nat) (Q : Option Value → Heap → List Loc → Prop) (s₂ : State) (o : Outcome) : Prop := ∃ v L, o = .returned v ∧ Q v s₂.heap L ∧ CHr Z EL s.vm s.heap s₂.vm s₂.heap ∧ ReturnedEndW s o s₂ L kc ks
def CtrH (l : Launch) (Z : State) (EL : List (String × Nat)) (SL : List Addr) (y : MethodName) (bytes : ByteArray) (maxL : Nat) (ret : Option FieldType) (ws : List Jvm.Cond) (rm : Room) (as' : Array Value) (h0 : Heap) (Q : Option Value → Heap → List Loc → Prop) : Prop :=
  MetFree l y (head1 (Jvm.Cond.code y bytes maxL ret :: ws) rm) (fun a U => a = as' ∧ Z.Warmed39 U.vm ∧ U.heap = h0 ∧ CHv Z EL U.vm h0 ∧ ∀ x ∈ SL, Safe Z EL U.vm h0 x) (fun _ _ _ _ _ => True) (fun _ U o U' => ∃ v L, o = .returned v ∧ Q v U'.heap L ∧ CHr Z EL U.vm U.heap U'.vm U'.heap ∧ ReturnedEndW U o U' L rm.cells rm.slots)
theorem CtrH.of {SL : List Addr} {y : MethodName} {bytes : ByteArray} {maxL : Nat} {ret : Option FieldType} {ws : List Jvm.Cond} {rm : Room} {as' : Array Value} {h0 : Heap} (hp : plainFor y = true)
    (body : ∀ (p : Program) (e : Env) (s : State) (m : MethodId) (below : List Frame) (meth : Method) (c : Code) (s₁ : State), p.tables.exec = Jvm.exec → c.code = bytes → c.maxLocals = maxL → meth.sig.returnType = ret → (s.setVm s.vm).vm.findClass y.cls = some m.cls → meth.name = y.name → Z.Warmed39 (s.setVm s.vm).vm → meth.locks = false → Stand p l e rm (s.setVm s.vm) m as' below meth c s₁ [] 0 0 → s₁.heap = h0 → s.Since s.vm 0 → CHr Z EL s.vm s.heap s.vm h0 → (∀ x ∈ SL, Safe Z EL s.vm h0 x) → Goes p e below (FinH Z EL s rm.cells rm.slots Q) s₁ (entryFrame m as' maxL)) :
    CtrH l Z EL SL y bytes maxL ret ws rm as' h0 Q := by
  refine MetFree.of_bodySF hp hisR ?_
  intro p e s m args below meth c s₁ Bd hml hP hK
  obtain ⟨rfl, hZ, hh, hv, hs⟩ := hP
  have X : Stand p l e rm s m args below meth c s₁ [] 0 0 := Stand.of_body Bd
  refine body p e s m below meth c s₁ Bd.exec Bd.bytes hml Bd.returns (findClass_of_methodNamed Bd.named) (name_of_methodNamed Bd.named Bd.method).1 hZ Bd.notSynchronized X (by rw [← hh, Bd.state]; rfl) ((State.WarmedH.refl s).since 0) ?_ hs
  rw [hh]; exact CHr.refl hv
/-- the payer of such a contract; what is asked of the addresses SL goes on to the tables at hand -/
theorem backOfSG {SL : List Addr} {y : MethodName} {bytes : ByteArray} {maxL : Nat} {ret : Option FieldType} {rm : Room} {len W : Nat} {as' : Array Value}
    (hM : CtrH l Z EL SL y bytes maxL ret [] rm as' h Q) (hZ : Z.Warmed39 vm0) (wc : (Jvm.Cond.code y bytes maxL ret).before a0 Z = true) (wz : (Jvm.Cond.initialized y.cls).before a0 Z = true) (hf : rm.frames + 1 ≤ R.frames) (hl : W + (maxL + 11) + rm.locals ≤ R.locals) (hEL : EW Z a0 EL) (H : CHv Z EL vm0 h) (hsl : ∀ x ∈ SL, x < h.size ∧ Safe Z EL vm0 h x) :
    BackS l R p e below (s.setVm vm0) args y len W (fun A a => a = as' ∧ A.U.heap = h ∧ A.cells + rm.cells ≤ R.cells ∧ A.slots + rm.slots ≤ R.slots)
      (fun A _ v B => ∃ L, Q v B.U.heap L ∧ B.locs = A.locs ++ L ∧ B.cells = A.cells + rm.cells ∧ B.slots = A.slots + rm.slots ∧ CHr Z EL vm0 h B.U.vm B.U.heap) :=
  BackS.of_freeW (bytes := bytes) (maxL := maxL) (ret := ret) (E := fun _ first o t L k n => k = rm.cells ∧ n = rm.slots ∧ (∃ v, o = .returned v ∧ Q v t.heap L) ∧ CHr Z EL first.vm first.heap t.vm t.heap) hM hf hl
    (fun m meth c A a Y hp => have hU : Z.Warmed39 A.U.vm := wtrans (s := s.setVm vm0) hZ Y.warmed
      ⟨by show (Jvm.Cond.and _ .tt).before a A.U = true; rw [Cond.before_and, mv hU wc]; rfl, mv hU wc, mv hU wz, hp.2.2.1, hp.2.2.2⟩)
    (fun m meth c A a g mk Y hp => have q := CHv.at Y hZ hEL H
      ⟨hp.1, wtrans (s := s.setVm vm0) hZ Y.warmed, hp.2.1, q.1, fun x hx => q.safe (hsl x hx).1 (hsl x hx).2⟩) (fun _ _ _ _ _ _ _ _ _ => trivial)
    (fun _ _ _ _ ⟨v, L, h1, h2, h3, h4⟩ => ⟨L, _, _, h4, rfl, rfl, ⟨v, h1, h2⟩, h3⟩)
    (fun m meth c A a g mk v t L k n Y hp _ _ ⟨e1, e2, ⟨v', e3, e4⟩, e5⟩ => by
      cases e3; subst e1 e2
      refine ⟨L, e4, rfl, rfl, rfl, (CHv.at Y hZ hEL H).trans ?_⟩
      rw [← hp.2.1]; exact e5)
theorem gLdcO (X : Stand p l e R (s.setVm vm0) m args below meth c T locs cells slots) (hx : p.tables.exec = Jvm.exec) (hZ : Z.Warmed39 (s.setVm vm0).vm) {own text : String} {i : Nat} (hown : (s.setVm vm0).vm.findClass own = some m.cls) (w : (Jvm.Cond.stringLink own i text).before a0 Z = true) (wS : ∀ a ∈ Bundle.stringAtoms, a.before a0 Z = true) (eT : T.heap = h) (hS : s.Since vm0 k0) (hk : k0 ≤ h.size) (hEL : EW Z a0 EL) (H : CHr Z EL s.vm s.heap vm0 h)
    (hd : decode c.code pc = .ok (.ldc i, 2)) (hp : pc + 2 = pc') {n : Nat} (hn : 4 * text.toList.length ≤ n) (hbig : n ≤ 536870912) (hc : cells + 2 ≤ R.cells) (hl : slots + (n + 4) ≤ R.slots)
    (k : ∀ a T' h' k1, Stand p l e R (s.setVm T'.vm) m args below meth c T' locs (cells + 2) (slots + (n + 4)) → T'.heap = h' → Ext h h' → s.Since T'.vm k1 → k1 ≤ h'.size → Z.Warmed39 (s.setVm T'.vm).vm → (s.setVm T'.vm).vm.findClass own = some m.cls → CHr Z EL vm0 h T'.vm h' → CHr Z EL s.vm s.heap T'.vm h' → Goes p e below F T' (mkF m pc' ls (.ref a :: st))) : Goes p e below F T (mkF m pc ls st) := by
  subst hp
  obtain ⟨a, T', h', k1, X', e', E, hS', hk', hZ', ho', hC, -, st'⟩ := ldcOH X hx hZ hown w wS eT hS hk hEL H.1 (g := mkF m pc ls st) rfl hd hn hbig hc hl
  exact Goes.fore st' (k a T' h' k1 X' e' E hS' hk' hZ' ho' hC (H.trans hC))
theorem gLdcC (X : Stand p l e R (s.setVm vm0) m args below meth c T locs cells slots) (hx : p.tables.exec = Jvm.exec) (hZ : Z.Warmed39 (s.setVm vm0).vm) {own text : String} {i : Nat} (hown : (s.setVm vm0).vm.findClass own = some m.cls) (w : (Jvm.Cond.stringLink own i text).before a0 Z = true) (wS : ∀ a ∈ Bundle.stringAtoms, a.before a0 Z = true) (eT : T.heap = h) (hS : s.Since vm0 k0) (hk : k0 ≤ h.size) (hEL : EW Z a0 EL) (hmem : (own, i) ∈ EL) (H : CHr Z EL s.vm s.heap vm0 h)
    {vs : List Value} {z : Int32} (ht : (∀ c ∈ text.toList, c.toNat < 256) ∧ text.toList.map (fun c => Value.int (Jvm.Lit.byteI c.toNat.toUInt16)) = vs) (hz : ¬ z < 0) (hlz : z.toNatClampNeg = vs.length)
    (hd : decode c.code pc = .ok (.ldc i, 2)) (hp : pc + 2 = pc') {n : Nat} (hn : 4 * text.toList.length ≤ n) (hbig : n ≤ 536870912) (hc : cells + 2 ≤ R.cells) (hl : slots + (n + 4) ≤ R.slots)
    (k : ∀ a T' h' k1 b ck, Stand p l e R (s.setVm T'.vm) m args below meth c T' locs (cells + 2) (slots + (n + 4)) → T'.heap = h' → Ext h h' → s.Since T'.vm k1 → k1 ≤ h'.size → Z.Warmed39 (s.setVm T'.vm).vm → (s.setVm T'.vm).vm.findClass own = some m.cls → CHr Z EL vm0 h T'.vm h' → CHr Z EL s.vm s.heap T'.vm h' →
      Exa Z h' a "java/lang/String" → Fld Z h' a "java/lang/String" "coder" "B" (.int 0) → Fld Z h' a "java/lang/String" "value" "[B" (.ref b) → Arv Z h' b ck .byte z vs (.int 0) → (∀ x, Safe Z EL T'.vm h' x → x ≠ a ∧ x ≠ b) → Goes p e below F T' (mkF m pc' ls (.ref a :: st))) : Goes p e below F T (mkF m pc ls st) := by
  subst hp
  obtain ⟨a, T', h', k1, b, ck, X', e', E, hS', hk', hZ', ho', Ex, Fc, Fv, A, -, -, hC, -, hsafe, st'⟩ := ldcCH X hx hZ hown w wS eT hS hk hEL hmem H.1 ht hz hlz (g := mkF m pc ls st) rfl hd hn hbig hc hl
  exact Goes.fore st' (k a T' h' k1 b ck X' e' E hS' hk' hZ' ho' hC (H.trans hC) Ex Fc Fv A hsafe)
theorem gRetH0 {v : Option Value} (X : Stand p l e R (s.setVm vm0) m args below meth c T locs cells slots) (hx : p.tables.exec = Jvm.exec) (hlk : meth.locks = false) (hv : meth.sig.returnType = none → v = none) (eT : T.heap = h) (hS : s.Since vm0 k0) (hk : k0 ≤ h.size) (hZ : Z.Warmed39 (s.setVm vm0).vm) (hEL : EW Z a0 EL) (H : CHr Z EL s.vm s.heap vm0 h) (hkc : cells ≤ kc) (hks : slots ≤ ks) (hq : Q v T.heap locs) {g : JFrame}
    (k : ∀ fs, (∀ (f : JFrame) (acts : List Action), f.method = m → f.locked = none → f.entered = [] → (doReturn e (T.setTop f) acts v).1 = T.setFrames fs) → Steps p.tables e below (T.setTop g) (T.setFrames fs)) : Goes p e below (FinH Z EL s kc ks Q) T g := by
  obtain ⟨fs, hr, hrun, hended, hW⟩ := X.leaveW hS (by rw [eT]; exact hk) hv hlk
  refine ⟨_, _, k fs hr, hrun, hended, _, _, rfl, hq, ?_, hW.1, hW.2.1, hW.2.2.1, hW.2.2.2.mono hkc hks⟩
  have q := CHv.at X hZ hEL H.1
  have e2 : (T.setFrames fs).heap = h := eT
  rw [e2]
  exact H.trans q
theorem gRetHN (X : Stand p l e R (s.setVm vm0) m args below meth c T locs cells slots) (hx : p.tables.exec = Jvm.exec) (hlk : meth.locks = false) {t : FieldType} (hret : meth.sig.returnType = some t) (ht : t = .boolean ∨ t = .byte ∨ t = .char ∨ t = .short) {z w : Int32} (hd : decode c.code pc = .ok (.ireturn, 1)) (hw : nar t z = w) (eT : T.heap = h) (hS : s.Since vm0 k0) (hk : k0 ≤ h.size) (hZ : Z.Warmed39 (s.setVm vm0).vm) (hEL : EW Z a0 EL) (H : CHr Z EL s.vm s.heap vm0 h) (hkc : cells ≤ kc) (hks : slots ≤ ks) (hq : Q (some (.int w)) T.heap locs) : Goes p e below (FinH Z EL s kc ks Q) T (mkF m pc ls (.int z :: st)) := by
  subst hw
  exact gRetH0 X hx hlk (fun h => by rw [hret] at h; cases h) eT hS hk hZ hEL H hkc hks hq fun fs hr => retN X hx hret ht hd hr
theorem gRetHV (X : Stand p l e R (s.setVm vm0) m args below meth c T locs cells slots) (hx : p.tables.exec = Jvm.exec) (hlk : meth.locks = false) (hret : meth.sig.returnType = none) (hd : decode c.code pc = .ok (.return_, 1)) (eT : T.heap = h) (hS : s.Since vm0 k0) (hk : k0 ≤ h.size) (hZ : Z.Warmed39 (s.setVm vm0).vm) (hEL : EW Z a0 EL) (H : CHr Z EL s.vm s.heap vm0 h) (hkc : cells ≤ kc) (hks : slots ≤ ks) (hq : Q none T.heap locs) : Goes p e below (FinH Z EL s kc ks Q) T (mkF m pc ls []) :=
  gRetH0 X hx hlk (fun _ => rfl) eT hS hk hZ hEL H hkc hks hq fun fs hr => X.returnOut hx hret hd hr
theorem gRetHA (X : Stand p l e R (s.setVm vm0) m args below meth c T locs cells slots) (hx : p.tables.exec = Jvm.exec) (hlk : meth.locks = false) {t : FieldType} (hret : meth.sig.returnType = some t) (ht : t.isReference = true) {v : Value} (hv : v.isRef = true) (hd : decode c.code pc = .ok (.areturn, 1)) (eT : T.heap = h) (hS : s.Since vm0 k0) (hk : k0 ≤ h.size) (hZ : Z.Warmed39 (s.setVm vm0).vm) (hEL : EW Z a0 EL) (H : CHr Z EL s.vm s.heap vm0 h) (hkc : cells ≤ kc) (hks : slots ≤ ks) (hq : Q (some v) T.heap locs) : Goes p e below (FinH Z EL s kc ks Q) T (mkF m pc ls (v :: st)) :=
  gRetH0 X hx hlk (fun h => by rw [hret] at h; cases h) eT hS hk hZ hEL H hkc hks hq fun fs hr => retOut X hx hret (by cases t <;> first | rfl | cases ht) (Or.inr (Or.inr (Or.inr (Or.inr ⟨rfl, ht, hv⟩)))) hd hr
theorem gCallSH (X : Stand p l e R (s.setVm vm0) m args below meth c T locs cells slots) (hx : p.tables.exec = Jvm.exec) (hZ : Z.Warmed39 (s.setVm vm0).vm) {y : MethodName} {bytes : ByteArray} {maxL : Nat} {ret : Option FieldType} {rm : Room} {own : String} {i : Nat} {Qc : Option Value → Heap → List Loc → Prop} (hown : (s.setVm vm0).vm.findClass own = some m.cls) (eT : T.heap = h) (hml : ls.size = c.maxLocals) (hS : s.Since vm0 k0) (hk : k0 ≤ h.size) (hEL : EW Z a0 EL) (H : CHr Z EL s.vm s.heap vm0 h)
    (w1 : (Jvm.Cond.methodLink own i y).before a0 Z = true) (w2 : (Jvm.Cond.static y).before a0 Z = true) (w3 : (Jvm.Cond.initialized y.cls).before a0 Z = true) (w4 : (Jvm.Cond.code y bytes maxL ret).before a0 Z = true) (hy : y.cls ≠ "java/lang/invoke/MethodHandle" ∧ y.cls ≠ "java/lang/invoke/VarHandle")
    {SL : List Addr} (hsf : ∀ x ∈ SL, x < h.size ∧ Safe Z EL vm0 h x) {argsL : List Value} {stk : List Value} (hC : CtrH l Z EL SL y bytes maxL ret [] rm argsL.toArray h Qc) (hlen : ∀ sig, parseMethodDescriptor y.desc = some sig → argsL.length = sig.parameters.length) (hd : decode c.code pc = .ok (.invokestatic i, 3)) (hp : pc + 3 = pc') (hst : stk = argsL.reverse ++ st)
    (hf : rm.frames + 1 ≤ R.frames) {W : Nat} (hW : (st.map fun v => v.category).sum ≤ W) (hlo : W + (maxL + 11) + rm.locals ≤ R.locals) (hce : cells + rm.cells ≤ R.cells) (hsl : slots + rm.slots ≤ R.slots)
    (k : ∀ T' v L, Stand p l e R (s.setVm T'.vm) m args below meth c T' (locs ++ L) (cells + rm.cells) (slots + rm.slots) → s.Since T'.vm T'.heap.size → Z.Warmed39 (s.setVm T'.vm).vm → (s.setVm T'.vm).vm.findClass own = some m.cls → CHr Z EL vm0 h T'.vm T'.heap → CHr Z EL s.vm s.heap T'.vm T'.heap → Qc v T'.heap L → Goes p e below F T' (mkF m pc' ls (v.toList ++ st))) : Goes p e below F T (mkF m pc ls stk) := by
  subst hp hst
  obtain ⟨v, vm1, ⟨T', L', k', n'⟩, -, X', hS', hg', ⟨Lc, hQ, l1, y1, z1, hC2⟩, st'⟩ := callSS X hx (y := y) hown (mvT (s := s.setVm vm0) hZ w1) (mvT (s := s.setVm vm0) hZ w2) (mvT (s := s.setVm vm0) hZ w3) (mvT (s := s.setVm vm0) hZ w4) hy (backOfSG (s := s) (W := W) hC hZ w4 w3 hf hlo hEL H.1 hsf) (g := mkF m pc ls (argsL.reverse ++ st)) rfl hml (argsL := argsL) (rest := st) hlen rfl (by show 2 * 0 + _ ≤ _; omega) hd (fun _ _ => ⟨rfl, eT, hce, hsl⟩)
  dsimp only [Pt.U, Pt.locs, Pt.cells, Pt.slots] at X' l1 y1 z1 st' hQ hS' hg' hC2
  subst l1 y1 z1
  exact Goes.tr st' (k T' v Lc X' (foldS hS (by rw [eT]; exact hk) hS' hg') (State.Warmed39.trans (t := s.setVm vm0) hZ hS'.1) (by rw [show (s.setVm T'.vm).vm = T'.vm from rfl, hS'.1.alike.findClass]; exact hown) hC2 (H.trans hC2) hQ)
theorem gCallIH (X : Stand p l e R (s.setVm vm0) m args below meth c T locs cells slots) (hx : p.tables.exec = Jvm.exec) (hZ : Z.Warmed39 (s.setVm vm0).vm) {y : MethodName} {bytes : ByteArray} {maxL : Nat} {rm : Room} {own : String} {i : Nat} {Qc : Option Value → Heap → List Loc → Prop} {a : Addr} (hy1 : y.name = "<init>") (hown : (s.setVm vm0).vm.findClass own = some m.cls) (eT : T.heap = h) (hml : ls.size = c.maxLocals) (hS : s.Since vm0 k0) (hk : k0 ≤ h.size) (hEL : EW Z a0 EL) (H : CHr Z EL s.vm s.heap vm0 h)
    (w1 : (Jvm.Cond.methodLink own i y).before a0 Z = true) (w2 : (Jvm.Cond.instanceMethod y).before a0 Z = true) (w3 : (Jvm.Cond.initialized y.cls).before a0 Z = true) (w4 : (Jvm.Cond.code y bytes maxL none).before a0 Z = true) (hy : y.cls ≠ "java/lang/invoke/MethodHandle" ∧ y.cls ≠ "java/lang/invoke/VarHandle")
    {SL : List Addr} (hsf : ∀ x ∈ SL, x < h.size ∧ Safe Z EL vm0 h x) {argsL : List Value} {stk : List Value} (hC : CtrH l Z EL SL y bytes maxL none [] rm (.ref a :: argsL).toArray h Qc) (hlen : ∀ sig, parseMethodDescriptor y.desc = some sig → argsL.length = sig.parameters.length) (hd : decode c.code pc = .ok (.invokespecial i, 3)) (hp : pc + 3 = pc') (hst : stk = argsL.reverse ++ .ref a :: st)
    (hf : rm.frames + 1 ≤ R.frames) {W : Nat} (hW : (st.map fun v => v.category).sum ≤ W) (hlo : W + (maxL + 11) + rm.locals ≤ R.locals) (hce : cells + rm.cells ≤ R.cells) (hsl : slots + rm.slots ≤ R.slots)
    (k : ∀ T' v L, Stand p l e R (s.setVm T'.vm) m args below meth c T' (locs ++ L) (cells + rm.cells) (slots + rm.slots) → s.Since T'.vm T'.heap.size → Z.Warmed39 (s.setVm T'.vm).vm → (s.setVm T'.vm).vm.findClass own = some m.cls → CHr Z EL vm0 h T'.vm T'.heap → CHr Z EL s.vm s.heap T'.vm T'.heap → Qc v T'.heap L → Goes p e below F T' (mkF m pc' ls (v.toList ++ st))) : Goes p e below F T (mkF m pc ls stk) := by
  subst hp hst
  obtain ⟨v, vm1, ⟨T', L', k', n'⟩, -, X', hS', hg', ⟨Lc, hQ, l1, y1, z1, hC2⟩, st'⟩ := X.specialBackS hx (y := y) hy1 hown (mvT (s := s.setVm vm0) hZ w1) (mvT (s := s.setVm vm0) hZ w2) (mvT (s := s.setVm vm0) hZ w4) hy (backOfSG (s := s) (W := W) hC hZ w4 w3 hf hlo hEL H.1 hsf) (g := mkF m pc ls (argsL.reverse ++ .ref a :: st)) rfl hml (Steps.refl _) (a := a) (argsL := argsL) (rest := st) hlen rfl (by show 2 * 0 + _ ≤ _; omega) hd (fun _ _ => ⟨rfl, eT, hce, hsl⟩)
  dsimp only [Pt.U, Pt.locs, Pt.cells, Pt.slots] at X' l1 y1 z1 st' hQ hS' hg' hC2
  subst l1 y1 z1
  exact Goes.tr st' (k T' v Lc X' (foldS hS (by rw [eT]; exact hk) hS' hg') (State.Warmed39.trans (t := s.setVm vm0) hZ hS'.1) (by rw [show (s.setVm T'.vm).vm = T'.vm from rfl, hS'.1.alike.findClass]; exact hown) hC2 (H.trans hC2) hQ)
theorem sl0 : ∀ x ∈ ([] : List Addr), x < h.size ∧ Safe Z EL vm0 h x := fun _ q => nomatch q
theorem sl1 {x : Addr} (q : x < h.size) (r : Safe Z EL vm0 h x) : ∀ y ∈ [x], y < h.size ∧ Safe Z EL vm0 h y := fun y z => by cases List.mem_singleton.mp z; exact ⟨q, r⟩
end OwnWide
theorem own_i2c (x : Int32) : x.toUInt32.toUInt16.toUInt32.toInt32 = x &&& 65535 := by
  apply Int32.toBitVec_inj.mp
  apply BitVec.eq_of_toNat_eq
  simp [BitVec.toNat_and]
  rw [show (65535 : Nat) = 2 ^ 16 - 1 from rfl, Nat.and_two_pow_sub_one_eq_mod]
theorem own_mask (x : Int32) : (x &&& 65535).toInt = x.toInt % 65536 := Jvm.Kit.i32_mask x 65535 (k := 16) (by decide) (by decide)
/-- compact strings are on -/
def Cpt (Z : State) (h : Heap) : Prop := ∃ cz : Int32, Sta Z h "java/lang/String" "COMPACT_STRINGS" "Z" (.int cz) ∧ ¬ cz.toInt = 0
theorem Cpt.ext {Z : State} {h h' : Heap} (E : Ext h h') (Fa : Cpt Z h) : Cpt Z h' := by obtain ⟨a, b, c⟩ := Fa; exact ⟨a, b.ext E, c⟩
theorem Cpt.wr {Z : State} {h h' : Heap} {a : Addr} {sl : Nat} {v : Value} (W : Wr h h' a sl v) (Fa : Cpt Z h) : Cpt Z h' := by obtain ⟨a, b, c⟩ := Fa; exact ⟨a, b.wr W, c⟩
theorem own_sta_keep {Z : State} {h h' : Heap} {C n d : String} {v : Value} {ws : List Addr} (Fa : Sta Z h C n d v) (K : Keep h h' ws) (q : ∀ x ∈ ws, ∀ cell : Cell, h[x]? = some cell → cell.vm.isStatics = false) : Sta Z h' C n d v := by
  obtain ⟨cf, i, k, f, st, cell, h1, h2, h3, h4, h5, h6, h7⟩ := Fa
  refine ⟨cf, i, k, f, st, cell, h1, h2, h3, h4, K.2.1 _ _ h5 (fun hm => ?_), h6, h7⟩
  have := q _ hm _ h5
  rw [h6] at this; cases this
theorem own_cpt_keep {Z : State} {h h' : Heap} {ws : List Addr} (Fa : Cpt Z h) (K : Keep h h' ws) (q : ∀ x ∈ ws, ∀ cell : Cell, h[x]? = some cell → cell.vm.isStatics = false) : Cpt Z h' := by
  obtain ⟨a, b, c⟩ := Fa; exact ⟨a, own_sta_keep b K q, c⟩
def Sio (Z : State) (h : Heap) : Prop := ∃ sf : Value, Sta Z h "jdk/internal/util/Preconditions" "SIOOBE_FORMATTER" "Ljava/util/function/BiFunction;" sf ∧ sf.isRef = true
theorem Sio.ext {Z : State} {h h' : Heap} (E : Ext h h') (Fa : Sio Z h) : Sio Z h' := by obtain ⟨a, b, c⟩ := Fa; exact ⟨a, b.ext E, c⟩
theorem Sio.wr {Z : State} {h h' : Heap} {a : Addr} {sl : Nat} {v : Value} (W : Wr h h' a sl v) (Fa : Sio Z h) : Sio Z h' := by obtain ⟨a, b, c⟩ := Fa; exact ⟨a, b.wr W, c⟩
theorem own_sio_keep {Z : State} {h h' : Heap} {ws : List Addr} (Fa : Sio Z h) (K : Keep h h' ws) (q : ∀ x ∈ ws, ∀ cell : Cell, h[x]? = some cell → cell.vm.isStatics = false) : Sio Z h' := by
  obtain ⟨a, b, c⟩ := Fa; exact ⟨a, own_sta_keep b K q, c⟩
theorem own_nb (x : Int32) : nar .byte x.toInt8.toInt32 = x.toInt8.toInt32 := by simp [nar]
theorem own_nc {c : Int32} (h : 0 ≤ c.toInt ∧ c.toInt ≤ 65535) : nar .char c = c := by
  show c.toUInt32.toUInt16.toUInt32.toInt32 = c
  rw [own_i2c]
  apply Int32.toInt_inj.mp
  rw [own_mask]; omega
theorem own_c8 {c : Int32} (h : 0 ≤ c.toInt ∧ c.toInt ≤ 255) : 0 ≤ c.toInt ∧ c.toInt ≤ 65535 := by omega
theorem own_mask8 (x : Int32) : (x &&& 255).toInt = x.toInt % 256 := Jvm.Kit.i32_mask x 255 (k := 8) (by decide) (by decide)
theorem own_b8 {c : Int32} : c.toInt8.toInt32.toInt = c.toInt.bmod 256 := by simp
theorem own_ch {c : Int32} (h : 0 ≤ c.toInt ∧ c.toInt ≤ 255) : (c.toInt8.toInt32 &&& 255).toUInt32.toUInt16.toUInt32.toInt32 = c := by
  rw [own_i2c]
  apply Int32.toInt_inj.mp
  rw [own_mask, own_mask8, own_b8, Int.bmod_def]; split <;> omega
theorem own_binj {a b : Int32} (ha : 0 ≤ a.toInt ∧ a.toInt ≤ 255) (hb : 0 ≤ b.toInt ∧ b.toInt ≤ 255) : a.toInt8.toInt32 = b.toInt8.toInt32 ↔ a.toInt = b.toInt := by
  constructor
  · intro q
    have := own_ch ha; rw [q, own_ch hb] at this; rw [this]
  · intro q; rw [Int32.toInt_inj.mp q]
abbrev by8 (c : Int32) : Value := .int c.toInt8.toInt32
theorem d_method_2_0 : decode method_2_code 0 = .ok (.iload_n 0, 1) := by decide +kernel
theorem d_method_2_1 : decode method_2_code 1 = .ok (.bipush 9, 2) := by decide +kernel
theorem d_method_2_3 : decode method_2_code 3 = .ok (.if_icmp .ne 5, 3) := by decide +kernel
theorem d_method_2_8 : decode method_2_code 8 = .ok (.iload_n 0, 1) := by decide +kernel
theorem d_method_2_9 : decode method_2_code 9 = .ok (.bipush 32, 2) := by decide +kernel
theorem d_method_2_11 : decode method_2_code 11 = .ok (.if_icmp .ge 5, 3) := by decide +kernel
theorem d_method_2_16 : decode method_2_code 16 = .ok (.iload_n 0, 1) := by decide +kernel
theorem d_method_2_17 : decode method_2_code 17 = .ok (.bipush 127, 2) := by decide +kernel
theorem d_method_2_19 : decode method_2_code 19 = .ok (.if_icmp .ne 5, 3) := by decide +kernel
theorem d_method_2_24 : decode method_2_code 24 = .ok (.iconst 1, 1) := by decide +kernel
theorem d_method_2_25 : decode method_2_code 25 = .ok (.ireturn, 1) := by decide +kernel
theorem d_method_2_22 : decode method_2_code 22 = .ok (.iconst 0, 1) := by decide +kernel
theorem d_method_2_23 : decode method_2_code 23 = .ok (.ireturn, 1) := by decide +kernel
theorem d_method_2_14 : decode method_2_code 14 = .ok (.iconst 0, 1) := by decide +kernel
theorem d_method_2_15 : decode method_2_code 15 = .ok (.ireturn, 1) := by decide +kernel
theorem d_method_2_6 : decode method_2_code 6 = .ok (.iconst 1, 1) := by decide +kernel
theorem d_method_2_7 : decode method_2_code 7 = .ok (.ireturn, 1) := by decide +kernel
theorem pn_1 : plainName "com/example/anteroom/anteroom/HttpSyntaxIsFieldValuePinLaw" = true := by first | (simp [plainName, overriddenIn]; done) | decide +kernel
theorem ef_c_ok (m : MethodId) (p0 : Int32) : entryFrame m #[(.int p0)] 1 = mkF m 0 #[.val (.int p0)] [] := by first | (simp [entryFrame, mkF, argsToLocals, Value.category]; done) | rfl
set_option maxRecDepth 65536 in
set_option maxHeartbeats 40000000 in
theorem c_ok (l : Launch) (Z : State) (a0 : Array Value) (hw : ∀ d ∈ tables_1, d.before a0 Z = true) (p0 : Int32) (h0 : Heap)  :
    Ctr l Z (⟨"com/example/anteroom/anteroom/HttpSyntaxIsFieldValuePinLaw", "ok", "(C)Z"⟩ : MethodName) method_2_code 1 (some .boolean) [] ({ frames := 0, cells := 0, slots := 0, locals := 0 } : Room) #[(.int p0)] h0 (Just h0 (.int (b2i (decide (p0.toInt = 9 ∨ 32 ≤ p0.toInt ∧ p0.toInt ≠ 127))))) := by
  refine Ctr.of (plainFor_of_name pn_1) ?_
  intro p e s m below meth c s₁ hx hby hml hret hown hnm hZ hlk X0 e0
  refine Goes.cast (ef_c_ok m p0) ?_
  refine gLoadIN X0 hx (hb hby d_method_2_0) (pc' := 1) rfl rfl ?_
  refine gBipush X0 hx (v := (9 : Int32)) (hb hby d_method_2_1) (pc' := 3) rfl rfl ?_
  refine gIcmpNeT X0 hx (hb hby d_method_2_3) (pc' := 8) (by decide) (by decide) (pn := 6) rfl (fun (c3 : ¬ p0.toInt = (9 : Int)) => ?_) (fun (c3 : p0.toInt = (9 : Int)) => ?_)
  · refine gLoadIN X0 hx (hb hby d_method_2_8) (pc' := 9) rfl rfl ?_
    refine gBipush X0 hx (v := (32 : Int32)) (hb hby d_method_2_9) (pc' := 11) rfl rfl ?_
    refine gIcmpGe X0 hx (hb hby d_method_2_11) (pc' := 16) (by decide) (by decide) (pn := 14) rfl (fun (c11 : (32 : Int) ≤ p0.toInt) => ?_) (fun (c11 : p0.toInt < (32 : Int)) => ?_)
    · refine gLoadIN X0 hx (hb hby d_method_2_16) (pc' := 17) rfl rfl ?_
      refine gBipush X0 hx (v := (127 : Int32)) (hb hby d_method_2_17) (pc' := 19) rfl rfl ?_
      refine gIcmpNeT X0 hx (hb hby d_method_2_19) (pc' := 24) (by decide) (by decide) (pn := 22) rfl (fun (c19 : ¬ p0.toInt = (127 : Int)) => ?_) (fun (c19 : p0.toInt = (127 : Int)) => ?_)
      · refine gIconst X0 hx (v := (1 : Int32)) (hb hby d_method_2_24) (pc' := 25) rfl rfl ?_
        exact gRetN X0 hx hlk hret (by simp) (hb hby d_method_2_25) (w := (1 : Int32)) rfl (by decide) (by decide) (just_t (by omega) e0)
      · refine gIconst X0 hx (v := (0 : Int32)) (hb hby d_method_2_22) (pc' := 23) rfl rfl ?_
        exact gRetN X0 hx hlk hret (by simp) (hb hby d_method_2_23) (w := (0 : Int32)) rfl (by decide) (by decide) (just_f (by omega) e0)
    · refine gIconst X0 hx (v := (0 : Int32)) (hb hby d_method_2_14) (pc' := 15) rfl rfl ?_
      exact gRetN X0 hx hlk hret (by simp) (hb hby d_method_2_15) (w := (0 : Int32)) rfl (by decide) (by decide) (just_f (by omega) e0)
  · refine gIconst X0 hx (v := (1 : Int32)) (hb hby d_method_2_6) (pc' := 7) rfl rfl ?_
    exact gRetN X0 hx hlk hret (by simp) (hb hby d_method_2_7) (w := (1 : Int32)) rfl (by decide) (by decide) (just_t (by omega) e0)
theorem d_jdk_42_method_152_0 : decode jdk_42_method_152_code 0 = .ok (.getstatic 38, 3) := by decide +kernel
theorem d_jdk_42_method_152_3 : decode jdk_42_method_152_code 3 = .ok (.ifCond .eq 10, 3) := by decide +kernel
theorem d_jdk_42_method_152_6 : decode jdk_42_method_152_code 6 = .ok (.aload_n 0, 1) := by decide +kernel
theorem d_jdk_42_method_152_7 : decode jdk_42_method_152_code 7 = .ok (.getfield 15, 3) := by decide +kernel
theorem d_jdk_42_method_152_10 : decode jdk_42_method_152_code 10 = .ok (.goto 4, 3) := by decide +kernel
theorem d_jdk_42_method_152_14 : decode jdk_42_method_152_code 14 = .ok (.ireturn, 1) := by decide +kernel
theorem pn_3 : plainName "java/lang/String" = true := by first | (simp [plainName, overriddenIn]; done) | decide +kernel
theorem ef_c_coder (m : MethodId) (a : Addr) : entryFrame m #[(.ref a)] 1 = mkF m 0 #[.val (.ref a)] [] := by first | (simp [entryFrame, mkF, argsToLocals, Value.category]; done) | rfl
set_option maxRecDepth 65536 in
set_option maxHeartbeats 40000000 in
theorem c_coder (l : Launch) (Z : State) (a0 : Array Value) (hw : ∀ d ∈ tables_1, d.before a0 Z = true) (a : Addr) (h0 : Heap) (hCpt : Cpt Z h0) (C : Fld Z h0 a "java/lang/String" "coder" "B" (.int 0)) :
    Ctr l Z (⟨"java/lang/String", "coder", "()B"⟩ : MethodName) jdk_42_method_152_code 1 (some .byte) [] ({ frames := 0, cells := 0, slots := 0, locals := 0 } : Room) #[(.ref a)] h0 (Just h0 (.int 0)) := by
  refine Ctr.of (plainFor_of_name pn_3) ?_
  intro p e s m below meth c s₁ hx hby hml hret hown hnm hZ hlk X0 e0
  refine Goes.cast (ef_c_coder m a) ?_
  obtain ⟨cz, SC, hcz⟩ := hCpt
  refine gGetS X0 hx hZ hown (hw _ (List.mem_of_getElem? (i := 37) rfl)) Via.refl e0 SC (hb hby d_jdk_42_method_152_0) (pc' := 3) rfl (fun T1 X1 e1 => ?_)
  refine gIfEqT X1 hx (hb hby d_jdk_42_method_152_3) (pc' := 13) (by decide) (by decide) (pn := 6) rfl (fun (c3 : cz.toInt = (0 : Int)) => ?_) (fun (c3 : ¬ cz.toInt = (0 : Int)) => ?_)
  · exact absurd c3 hcz
  · refine gLoadAN X1 hx (hb hby d_jdk_42_method_152_6) (pc' := 7) rfl rfl rfl ?_
    refine gGetF X1 hx hZ hown (hw _ (List.mem_of_getElem? (i := 22) rfl)) Via.refl e1 C (hb hby d_jdk_42_method_152_7) (pc' := 10) rfl (fun T2 X2 e2 => ?_)
    refine gGoto X2 hx (hb hby d_jdk_42_method_152_10) (pc' := 14) (by decide) (by decide) ?_
    exact gRetN X2 hx hlk hret (by simp) (hb hby d_jdk_42_method_152_14) (w := (0 : Int32)) rfl (by decide) (by decide) (⟨rfl, e2, rfl⟩)
theorem d_jdk_42_method_54_0 : decode jdk_42_method_54_code 0 = .ok (.aload_n 0, 1) := by decide +kernel
theorem d_jdk_42_method_54_1 : decode jdk_42_method_54_code 1 = .ok (.getfield 9, 3) := by decide +kernel
theorem d_jdk_42_method_54_4 : decode jdk_42_method_54_code 4 = .ok (.arraylength, 1) := by decide +kernel
theorem d_jdk_42_method_54_5 : decode jdk_42_method_54_code 5 = .ok (.aload_n 0, 1) := by decide +kernel
theorem d_jdk_42_method_54_6 : decode jdk_42_method_54_code 6 = .ok (.invokevirtual 335, 3) := by decide +kernel
theorem pd_0 : parseMethodDescriptor "()B" = some ⟨[], some .byte⟩ := by decide +kernel
theorem d_jdk_42_method_54_9 : decode jdk_42_method_54_code 9 = .ok (.ishr, 1) := by decide +kernel
theorem d_jdk_42_method_54_10 : decode jdk_42_method_54_code 10 = .ok (.ireturn, 1) := by decide +kernel
theorem ef_c_length_0 (m : MethodId) (a : Addr) : entryFrame m #[(.ref a)] 1 = mkF m 0 #[.val (.ref a)] [] := by first | (simp [entryFrame, mkF, argsToLocals, Value.category]; done) | rfl
set_option maxRecDepth 65536 in
set_option maxHeartbeats 40000000 in
theorem c_length_0 (l : Launch) (Z : State) (a0 : Array Value) (hw : ∀ d ∈ tables_1, d.before a0 Z = true) (a t : Addr) (ck : ClassId)  (h0 : Heap) (hCpt : Cpt Z h0) (E : Exa Z h0 a "java/lang/String") (C : Fld Z h0 a "java/lang/String" "coder" "B" (.int 0)) (V : Fld Z h0 a "java/lang/String" "value" "[B" (.ref t)) (A : Arv Z h0 t ck .byte 0 [] (.int 0))  :
    Ctr l Z (⟨"java/lang/String", "length", "()I"⟩ : MethodName) jdk_42_method_54_code 1 (some .int) [] ({ frames := 1, cells := 0, slots := 0, locals := 13 } : Room) #[(.ref a)] h0 (Just h0 (.int 0)) := by
  refine Ctr.of (plainFor_of_name pn_3) ?_
  intro p e s m below meth c s₁ hx hby hml hret hown hnm hZ hlk X0 e0
  refine Goes.cast (ef_c_length_0 m a) ?_
  refine gLoadAN X0 hx (hb hby d_jdk_42_method_54_0) (pc' := 1) rfl rfl rfl ?_
  refine gGetF X0 hx hZ hown (hw _ (List.mem_of_getElem? (i := 21) rfl)) Via.refl e0 V (hb hby d_jdk_42_method_54_1) (pc' := 4) rfl (fun T1 X1 e1 => ?_)
  refine gArrLen X1 hx hZ e1 A (hb hby d_jdk_42_method_54_4) (pc' := 5) rfl ?_
  refine gLoadAN X1 hx (hb hby d_jdk_42_method_54_5) (pc' := 6) rfl rfl rfl ?_
  refine gCallVJ X1 hx hZ (y := (⟨"java/lang/String", "coder", "()B"⟩ : MethodName)) hown e1 (by rw [hml]; rfl) E (hw _ (List.mem_of_getElem? (i := 32) rfl)) (hw _ (List.mem_of_getElem? (i := 33) rfl)) (hw _ (List.mem_of_getElem? (i := 35) rfl)) (hw _ (List.mem_of_getElem? (i := 34) rfl)) (hw _ (List.mem_of_getElem? (i := 4) rfl)) (hw _ (List.mem_of_getElem? (i := 36) rfl)) (by decide) (argsL := []) (st := [(.int (0 : Int32))]) (c_coder l Z a0 hw a h0 hCpt C) (lenOf pd_0 rfl) (hb hby d_jdk_42_method_54_6) (pc' := 9) rfl rfl rfl rfl (by decide) (W := 1) (Nat.le_of_eq rfl) (by decide) (by decide) (by decide) ?_
  intro T2 X2 e2
  refine gIshr X2 hx (hb hby d_jdk_42_method_54_9) (pc' := 10) rfl ?_
  show Goes p e below _ T2 (mkF m 10 #[.val (.ref a)] [(.int (0 : Int32))])
  exact gRetI X2 hx hlk hret (hb hby d_jdk_42_method_54_10) (by decide) (by decide) (⟨rfl, e2, rfl⟩)
theorem d_prog_7_method_12_0 : decode prog_7_method_12_code 0 = .ok (.iconst 1, 1) := by decide +kernel
theorem d_prog_7_method_12_1 : decode prog_7_method_12_code 1 = .ok (.istore_n 1, 1) := by decide +kernel
theorem d_prog_7_method_12_2 : decode prog_7_method_12_code 2 = .ok (.iconst 0, 1) := by decide +kernel
theorem d_prog_7_method_12_3 : decode prog_7_method_12_code 3 = .ok (.istore_n 2, 1) := by decide +kernel
theorem d_prog_7_method_12_4 : decode prog_7_method_12_code 4 = .ok (.iload_n 2, 1) := by decide +kernel
theorem d_prog_7_method_12_5 : decode prog_7_method_12_code 5 = .ok (.aload_n 0, 1) := by decide +kernel
theorem d_prog_7_method_12_6 : decode prog_7_method_12_code 6 = .ok (.invokevirtual 30, 3) := by decide +kernel
theorem pd_1 : parseMethodDescriptor "()I" = some ⟨[], some .int⟩ := by decide +kernel
theorem d_prog_7_method_12_9 : decode prog_7_method_12_code 9 = .ok (.if_icmp .ge 43, 3) := by decide +kernel
theorem d_prog_7_method_12_52 : decode prog_7_method_12_code 52 = .ok (.iload_n 1, 1) := by decide +kernel
theorem d_prog_7_method_12_53 : decode prog_7_method_12_code 53 = .ok (.ireturn, 1) := by decide +kernel
theorem pn_0 : plainName "com/example/anteroom/anteroom/HttpSyntax" = true := by first | (simp [plainName, overriddenIn]; done) | decide +kernel
theorem ef_c_fv_0 (m : MethodId) (a : Addr) : entryFrame m #[(.ref a)] 4 = mkF m 0 #[.val (.ref a), .unset, .unset, .unset] [] := by first | (simp [entryFrame, mkF, argsToLocals, Value.category]; done) | rfl
set_option maxRecDepth 65536 in
set_option maxHeartbeats 40000000 in
theorem c_fv_0 (l : Launch) (Z : State) (a0 : Array Value) (hw : ∀ d ∈ tables_1, d.before a0 Z = true) (a t : Addr) (ck : ClassId)  (h0 : Heap) (hSio : Sio Z h0) (hCpt : Cpt Z h0) (E : Exa Z h0 a "java/lang/String") (C : Fld Z h0 a "java/lang/String" "coder" "B" (.int 0)) (V : Fld Z h0 a "java/lang/String" "value" "[B" (.ref t)) (A : Arv Z h0 t ck .byte 0 [] (.int 0))  :
    Ctr l Z (⟨"com/example/anteroom/anteroom/HttpSyntax", "isFieldValue", "(Ljava/lang/String;)Z"⟩ : MethodName) prog_7_method_12_code 4 (some .boolean) [] ({ frames := 4, cells := 0, slots := 0, locals := 56 } : Room) #[(.ref a)] h0 (Just h0 (.int 1)) := by
  refine Ctr.of (plainFor_of_name pn_0) ?_
  intro p e s m below meth c s₁ hx hby hml hret hown hnm hZ hlk X0 e0
  refine Goes.cast (ef_c_fv_0 m a) ?_
  refine gIconst X0 hx (v := (1 : Int32)) (hb hby d_prog_7_method_12_0) (pc' := 1) rfl rfl ?_
  refine gStoreIN X0 hx (hb hby d_prog_7_method_12_1) (l' := #[.val (.ref a), .val (.int (1 : Int32)), .unset, .unset]) (pc' := 2) rfl rfl ?_
  refine gIconst X0 hx (v := (0 : Int32)) (hb hby d_prog_7_method_12_2) (pc' := 3) rfl rfl ?_
  refine gStoreIN X0 hx (hb hby d_prog_7_method_12_3) (l' := #[.val (.ref a), .val (.int (1 : Int32)), .val (.int (0 : Int32)), .unset]) (pc' := 4) rfl rfl ?_
  refine gLoadIN X0 hx (hb hby d_prog_7_method_12_4) (pc' := 5) rfl rfl ?_
  refine gLoadAN X0 hx (hb hby d_prog_7_method_12_5) (pc' := 6) rfl rfl rfl ?_
  refine gCallVJ X0 hx hZ (y := (⟨"java/lang/String", "length", "()I"⟩ : MethodName)) hown e0 (by rw [hml]; rfl) E (hw _ (List.mem_of_getElem? (i := 27) rfl)) (hw _ (List.mem_of_getElem? (i := 28) rfl)) (hw _ (List.mem_of_getElem? (i := 30) rfl)) (hw _ (List.mem_of_getElem? (i := 29) rfl)) (hw _ (List.mem_of_getElem? (i := 4) rfl)) (hw _ (List.mem_of_getElem? (i := 31) rfl)) (by decide) (argsL := []) (st := [(.int (0 : Int32))]) (c_length_0 l Z a0 hw a t ck  h0 hCpt E C V A ) (lenOf pd_1 rfl) (hb hby d_prog_7_method_12_6) (pc' := 9) rfl rfl rfl rfl (by decide) (W := 1) (Nat.le_of_eq rfl) (by decide) (by decide) (by decide) ?_
  intro T1 X1 e1
  refine gIcmpGe X1 hx (hb hby d_prog_7_method_12_9) (pc' := 52) (by decide) (by decide) (pn := 12) rfl (fun (c9 : (0 : Int) ≤ (0 : Int)) => ?_) (fun (c9 : (0 : Int) < (0 : Int)) => ?_)
  · refine gLoadIN X1 hx (hb hby d_prog_7_method_12_52) (pc' := 53) rfl rfl ?_
    exact gRetN X1 hx hlk hret (by simp) (hb hby d_prog_7_method_12_53) (w := (1 : Int32)) rfl (by decide) (by decide) (⟨rfl, e1, rfl⟩)
  · exact absurd c9 (by decide)
theorem ef_c_length_1 (m : MethodId) (a : Addr) : entryFrame m #[(.ref a)] 1 = mkF m 0 #[.val (.ref a)] [] := by first | (simp [entryFrame, mkF, argsToLocals, Value.category]; done) | rfl
set_option maxRecDepth 65536 in
set_option maxHeartbeats 40000000 in
theorem c_length_1 (l : Launch) (Z : State) (a0 : Array Value) (hw : ∀ d ∈ tables_1, d.before a0 Z = true) (a t : Addr) (ck : ClassId) (c0 : Int32) (h0 : Heap) (hCpt : Cpt Z h0) (E : Exa Z h0 a "java/lang/String") (C : Fld Z h0 a "java/lang/String" "coder" "B" (.int 0)) (V : Fld Z h0 a "java/lang/String" "value" "[B" (.ref t)) (A : Arv Z h0 t ck .byte 1 [by8 c0] (.int 0)) (hc0 : 0 ≤ c0.toInt ∧ c0.toInt ≤ 255) :
    Ctr l Z (⟨"java/lang/String", "length", "()I"⟩ : MethodName) jdk_42_method_54_code 1 (some .int) [] ({ frames := 1, cells := 0, slots := 0, locals := 13 } : Room) #[(.ref a)] h0 (Just h0 (.int 1)) := by
  refine Ctr.of (plainFor_of_name pn_3) ?_
  intro p e s m below meth c s₁ hx hby hml hret hown hnm hZ hlk X0 e0
  refine Goes.cast (ef_c_length_1 m a) ?_
  refine gLoadAN X0 hx (hb hby d_jdk_42_method_54_0) (pc' := 1) rfl rfl rfl ?_
  refine gGetF X0 hx hZ hown (hw _ (List.mem_of_getElem? (i := 21) rfl)) Via.refl e0 V (hb hby d_jdk_42_method_54_1) (pc' := 4) rfl (fun T1 X1 e1 => ?_)
  refine gArrLen X1 hx hZ e1 A (hb hby d_jdk_42_method_54_4) (pc' := 5) rfl ?_
  refine gLoadAN X1 hx (hb hby d_jdk_42_method_54_5) (pc' := 6) rfl rfl rfl ?_
  refine gCallVJ X1 hx hZ (y := (⟨"java/lang/String", "coder", "()B"⟩ : MethodName)) hown e1 (by rw [hml]; rfl) E (hw _ (List.mem_of_getElem? (i := 32) rfl)) (hw _ (List.mem_of_getElem? (i := 33) rfl)) (hw _ (List.mem_of_getElem? (i := 35) rfl)) (hw _ (List.mem_of_getElem? (i := 34) rfl)) (hw _ (List.mem_of_getElem? (i := 4) rfl)) (hw _ (List.mem_of_getElem? (i := 36) rfl)) (by decide) (argsL := []) (st := [(.int (1 : Int32))]) (c_coder l Z a0 hw a h0 hCpt C) (lenOf pd_0 rfl) (hb hby d_jdk_42_method_54_6) (pc' := 9) rfl rfl rfl rfl (by decide) (W := 1) (Nat.le_of_eq rfl) (by decide) (by decide) (by decide) ?_
  intro T2 X2 e2
  refine gIshr X2 hx (hb hby d_jdk_42_method_54_9) (pc' := 10) rfl ?_
  show Goes p e below _ T2 (mkF m 10 #[.val (.ref a)] [(.int (1 : Int32))])
  exact gRetI X2 hx hlk hret (hb hby d_jdk_42_method_54_10) (by decide) (by decide) (⟨rfl, e2, rfl⟩)
theorem d_jdk_41_method_11_0 : decode jdk_41_method_11_code 0 = .ok (.iload_n 0, 1) := by decide +kernel
theorem d_jdk_41_method_11_1 : decode jdk_41_method_11_code 1 = .ok (.ifCond .lt 8, 3) := by decide +kernel
theorem d_jdk_41_method_11_4 : decode jdk_41_method_11_code 4 = .ok (.iload_n 0, 1) := by decide +kernel
theorem d_jdk_41_method_11_5 : decode jdk_41_method_11_code 5 = .ok (.iload_n 1, 1) := by decide +kernel
theorem d_jdk_41_method_11_6 : decode jdk_41_method_11_code 6 = .ok (.if_icmp .lt 10, 3) := by decide +kernel
theorem d_jdk_41_method_11_16 : decode jdk_41_method_11_code 16 = .ok (.iload_n 0, 1) := by decide +kernel
theorem d_jdk_41_method_11_17 : decode jdk_41_method_11_code 17 = .ok (.ireturn, 1) := by decide +kernel
theorem pn_6 : plainName "jdk/internal/util/Preconditions" = true := by first | (simp [plainName, overriddenIn]; done) | decide +kernel
theorem ef_c_chk_0_1p (m : MethodId) (sf : Value) (hsf : sf.isRef = true) : entryFrame m #[(.int (0 : Int32)), (.int (1 : Int32)), sf] 3 = mkF m 0 #[.val (.int (0 : Int32)), .val (.int (1 : Int32)), .val sf] [] := by rcases ref_cases hsf with rfl | ⟨_, rfl⟩ <;> (first | (simp [entryFrame, mkF, argsToLocals, Value.category]; done) | rfl)
set_option maxRecDepth 65536 in
set_option maxHeartbeats 40000000 in
theorem c_chk_0_1p (l : Launch) (Z : State) (a0 : Array Value) (hw : ∀ d ∈ tables_1, d.before a0 Z = true) (sf : Value) (hsf : sf.isRef = true) (h0 : Heap)  :
    Ctr l Z (⟨"jdk/internal/util/Preconditions", "checkIndex", "(IILjava/util/function/BiFunction;)I"⟩ : MethodName) jdk_41_method_11_code 3 (some .int) [] ({ frames := 0, cells := 0, slots := 0, locals := 0 } : Room) #[(.int (0 : Int32)), (.int (1 : Int32)), sf] h0 (Just h0 (.int 0)) := by
  refine Ctr.of (plainFor_of_name pn_6) ?_
  intro p e s m below meth c s₁ hx hby hml hret hown hnm hZ hlk X0 e0
  refine Goes.cast (ef_c_chk_0_1p m sf hsf) ?_
  refine gLoadIN X0 hx (hb hby d_jdk_41_method_11_0) (pc' := 1) rfl rfl ?_
  refine gIfLt X0 hx (hb hby d_jdk_41_method_11_1) (pc' := 9) (by decide) (by decide) (pn := 4) rfl (fun (c1 : (0 : Int) < (0 : Int)) => ?_) (fun (c1 : (0 : Int) ≤ (0 : Int)) => ?_)
  · exact absurd c1 (by decide)
  · refine gLoadIN X0 hx (hb hby d_jdk_41_method_11_4) (pc' := 5) rfl rfl ?_
    refine gLoadIN X0 hx (hb hby d_jdk_41_method_11_5) (pc' := 6) rfl rfl ?_
    refine gIcmpLt X0 hx (hb hby d_jdk_41_method_11_6) (pc' := 16) (by decide) (by decide) (pn := 9) rfl (fun (c6 : (0 : Int) < (1 : Int)) => ?_) (fun (c6 : (1 : Int) ≤ (0 : Int)) => ?_)
    · refine gLoadIN X0 hx (hb hby d_jdk_41_method_11_16) (pc' := 17) rfl rfl ?_
      exact gRetI X0 hx hlk hret (hb hby d_jdk_41_method_11_17) (by decide) (by decide) (⟨rfl, e0, rfl⟩)
    · exact absurd c6 (by decide)
theorem d_jdk_42_method_155_0 : decode jdk_42_method_155_code 0 = .ok (.iload_n 0, 1) := by decide +kernel
theorem d_jdk_42_method_155_1 : decode jdk_42_method_155_code 1 = .ok (.iload_n 1, 1) := by decide +kernel
theorem d_jdk_42_method_155_2 : decode jdk_42_method_155_code 2 = .ok (.getstatic 1053, 3) := by decide +kernel
theorem d_jdk_42_method_155_5 : decode jdk_42_method_155_code 5 = .ok (.invokestatic 1059, 3) := by decide +kernel
theorem pd_7 : parseMethodDescriptor "(IILjava/util/function/BiFunction;)I" = some ⟨[.int, .int, (.object "java/util/function/BiFunction")], some .int⟩ := by decide +kernel
theorem d_jdk_42_method_155_8 : decode jdk_42_method_155_code 8 = .ok (.pop, 1) := by decide +kernel
theorem d_jdk_42_method_155_9 : decode jdk_42_method_155_code 9 = .ok (.return_, 1) := by decide +kernel
theorem ef_c_chk_0_1 (m : MethodId)  : entryFrame m #[(.int (0 : Int32)), (.int (1 : Int32))] 2 = mkF m 0 #[.val (.int (0 : Int32)), .val (.int (1 : Int32))] [] := by first | (simp [entryFrame, mkF, argsToLocals, Value.category]; done) | rfl
set_option maxRecDepth 65536 in
set_option maxHeartbeats 40000000 in
theorem c_chk_0_1 (l : Launch) (Z : State) (a0 : Array Value) (hw : ∀ d ∈ tables_1, d.before a0 Z = true)  (h0 : Heap) (hSio : Sio Z h0) :
    Ctr l Z (⟨"java/lang/String", "checkIndex", "(II)V"⟩ : MethodName) jdk_42_method_155_code 2 none [] ({ frames := 1, cells := 0, slots := 0, locals := 14 } : Room) #[(.int (0 : Int32)), (.int (1 : Int32))] h0 (fun v h L => v = none ∧ h = h0 ∧ L = []) := by
  refine Ctr.of (plainFor_of_name pn_3) ?_
  intro p e s m below meth c s₁ hx hby hml hret hown hnm hZ hlk X0 e0
  refine Goes.cast (ef_c_chk_0_1 m ) ?_
  obtain ⟨sf, SF, hsf⟩ := hSio
  refine gLoadIN X0 hx (hb hby d_jdk_42_method_155_0) (pc' := 1) rfl rfl ?_
  refine gLoadIN X0 hx (hb hby d_jdk_42_method_155_1) (pc' := 2) rfl rfl ?_
  refine gGetS X0 hx hZ hown (hw _ (List.mem_of_getElem? (i := 69) rfl)) Via.refl e0 SF (hb hby d_jdk_42_method_155_2) (pc' := 5) rfl (fun T1 X1 e1 => ?_)
  refine gCallSJ X1 hx hZ (y := (⟨"jdk/internal/util/Preconditions", "checkIndex", "(IILjava/util/function/BiFunction;)I"⟩ : MethodName)) hown e1 (by rw [hml]; rfl) (hw _ (List.mem_of_getElem? (i := 71) rfl)) (hw _ (List.mem_of_getElem? (i := 72) rfl)) (hw _ (List.mem_of_getElem? (i := 70) rfl)) (hw _ (List.mem_of_getElem? (i := 73) rfl)) (by decide) (argsL := [(.int (0 : Int32)), (.int (1 : Int32)), sf]) (st := []) (c_chk_0_1p l Z a0 hw sf hsf h0) (lenOf pd_7 rfl) (hb hby d_jdk_42_method_155_5) (pc' := 8) rfl rfl rfl rfl (by decide) (W := 0) (Nat.le_of_eq rfl) (by decide) (by decide) (by decide) ?_
  intro T2 X2 e2
  refine gPop X2 hx (hb hby d_jdk_42_method_155_8) (pc' := 9) rfl rfl ?_
  exact gRetV X2 hx hlk hret (hb hby d_jdk_42_method_155_9) (by decide) (by decide) (⟨rfl, e2, rfl⟩)
theorem d_jdk_42_method_154_0 : decode jdk_42_method_154_code 0 = .ok (.getstatic 38, 3) := by decide +kernel
theorem d_jdk_42_method_154_3 : decode jdk_42_method_154_code 3 = .ok (.ifCond .eq 14, 3) := by decide +kernel
theorem d_jdk_42_method_154_6 : decode jdk_42_method_154_code 6 = .ok (.aload_n 0, 1) := by decide +kernel
theorem d_jdk_42_method_154_7 : decode jdk_42_method_154_code 7 = .ok (.getfield 15, 3) := by decide +kernel
theorem d_jdk_42_method_154_10 : decode jdk_42_method_154_code 10 = .ok (.ifCond .ne 7, 3) := by decide +kernel
theorem d_jdk_42_method_154_13 : decode jdk_42_method_154_code 13 = .ok (.iconst 1, 1) := by decide +kernel
theorem d_jdk_42_method_154_14 : decode jdk_42_method_154_code 14 = .ok (.goto 4, 3) := by decide +kernel
theorem d_jdk_42_method_154_18 : decode jdk_42_method_154_code 18 = .ok (.ireturn, 1) := by decide +kernel
theorem ef_c_isLatin1 (m : MethodId) (a : Addr) : entryFrame m #[(.ref a)] 1 = mkF m 0 #[.val (.ref a)] [] := by first | (simp [entryFrame, mkF, argsToLocals, Value.category]; done) | rfl
set_option maxRecDepth 65536 in
set_option maxHeartbeats 40000000 in
theorem c_isLatin1 (l : Launch) (Z : State) (a0 : Array Value) (hw : ∀ d ∈ tables_1, d.before a0 Z = true) (a : Addr) (h0 : Heap) (hCpt : Cpt Z h0) (C : Fld Z h0 a "java/lang/String" "coder" "B" (.int 0)) :
    Ctr l Z (⟨"java/lang/String", "isLatin1", "()Z"⟩ : MethodName) jdk_42_method_154_code 1 (some .boolean) [] ({ frames := 0, cells := 0, slots := 0, locals := 0 } : Room) #[(.ref a)] h0 (Just h0 (.int 1)) := by
  refine Ctr.of (plainFor_of_name pn_3) ?_
  intro p e s m below meth c s₁ hx hby hml hret hown hnm hZ hlk X0 e0
  refine Goes.cast (ef_c_isLatin1 m a) ?_
  obtain ⟨cz, SC, hcz⟩ := hCpt
  refine gGetS X0 hx hZ hown (hw _ (List.mem_of_getElem? (i := 37) rfl)) Via.refl e0 SC (hb hby d_jdk_42_method_154_0) (pc' := 3) rfl (fun T1 X1 e1 => ?_)
  refine gIfEqT X1 hx (hb hby d_jdk_42_method_154_3) (pc' := 17) (by decide) (by decide) (pn := 6) rfl (fun (c3 : cz.toInt = (0 : Int)) => ?_) (fun (c3 : ¬ cz.toInt = (0 : Int)) => ?_)
  · exact absurd c3 hcz
  · refine gLoadAN X1 hx (hb hby d_jdk_42_method_154_6) (pc' := 7) rfl rfl rfl ?_
    refine gGetF X1 hx hZ hown (hw _ (List.mem_of_getElem? (i := 22) rfl)) Via.refl e1 C (hb hby d_jdk_42_method_154_7) (pc' := 10) rfl (fun T2 X2 e2 => ?_)
    refine gIfNeT X2 hx (hb hby d_jdk_42_method_154_10) (pc' := 17) (by decide) (by decide) (pn := 13) rfl (fun (c10 : ¬ (0 : Int) = (0 : Int)) => ?_) (fun (c10 : (0 : Int) = (0 : Int)) => ?_)
    · exact absurd c10 (by decide)
    · refine gIconst X2 hx (v := (1 : Int32)) (hb hby d_jdk_42_method_154_13) (pc' := 14) rfl rfl ?_
      refine gGoto X2 hx (hb hby d_jdk_42_method_154_14) (pc' := 18) (by decide) (by decide) ?_
      exact gRetN X2 hx hlk hret (by simp) (hb hby d_jdk_42_method_154_18) (w := (1 : Int32)) rfl (by decide) (by decide) (⟨rfl, e2, rfl⟩)
theorem d_jdk_43_method_2_0 : decode jdk_43_method_2_code 0 = .ok (.iload_n 1, 1) := by decide +kernel
theorem d_jdk_43_method_2_1 : decode jdk_43_method_2_code 1 = .ok (.aload_n 0, 1) := by decide +kernel
theorem d_jdk_43_method_2_2 : decode jdk_43_method_2_code 2 = .ok (.arraylength, 1) := by decide +kernel
theorem d_jdk_43_method_2_3 : decode jdk_43_method_2_code 3 = .ok (.invokestatic 9, 3) := by decide +kernel
theorem pd_6 : parseMethodDescriptor "(II)V" = some ⟨[.int, .int], none⟩ := by decide +kernel
theorem d_jdk_43_method_2_6 : decode jdk_43_method_2_code 6 = .ok (.aload_n 0, 1) := by decide +kernel
theorem d_jdk_43_method_2_7 : decode jdk_43_method_2_code 7 = .ok (.iload_n 1, 1) := by decide +kernel
theorem d_jdk_43_method_2_8 : decode jdk_43_method_2_code 8 = .ok (.baload, 1) := by decide +kernel
theorem d_jdk_43_method_2_9 : decode jdk_43_method_2_code 9 = .ok (.sipush 255, 3) := by decide +kernel
theorem d_jdk_43_method_2_12 : decode jdk_43_method_2_code 12 = .ok (.iand, 1) := by decide +kernel
theorem d_jdk_43_method_2_13 : decode jdk_43_method_2_code 13 = .ok (.i2c, 1) := by decide +kernel
theorem d_jdk_43_method_2_14 : decode jdk_43_method_2_code 14 = .ok (.ireturn, 1) := by decide +kernel
theorem pn_4 : plainName "java/lang/StringLatin1" = true := by first | (simp [plainName, overriddenIn]; done) | decide +kernel
theorem ef_c_charAt_0_1l (m : MethodId) (t : Addr) : entryFrame m #[(.ref t), (.int (0 : Int32))] 2 = mkF m 0 #[.val (.ref t), .val (.int (0 : Int32))] [] := by first | (simp [entryFrame, mkF, argsToLocals, Value.category]; done) | rfl
set_option maxRecDepth 65536 in
set_option maxHeartbeats 40000000 in
theorem c_charAt_0_1l (l : Launch) (Z : State) (a0 : Array Value) (hw : ∀ d ∈ tables_1, d.before a0 Z = true) (t : Addr) (ck : ClassId) (c0 : Int32) (h0 : Heap) (hSio : Sio Z h0) (A : Arv Z h0 t ck .byte 1 [by8 c0] (.int 0)) (hc0 : 0 ≤ c0.toInt ∧ c0.toInt ≤ 255) :
    Ctr l Z (⟨"java/lang/StringLatin1", "charAt", "([BI)C"⟩ : MethodName) jdk_43_method_2_code 2 (some .char) [] ({ frames := 2, cells := 0, slots := 0, locals := 28 } : Room) #[(.ref t), (.int (0 : Int32))] h0 (Just h0 (.int c0)) := by
  refine Ctr.of (plainFor_of_name pn_4) ?_
  intro p e s m below meth c s₁ hx hby hml hret hown hnm hZ hlk X0 e0
  refine Goes.cast (ef_c_charAt_0_1l m t) ?_
  refine gLoadIN X0 hx (hb hby d_jdk_43_method_2_0) (pc' := 1) rfl rfl ?_
  refine gLoadAN X0 hx (hb hby d_jdk_43_method_2_1) (pc' := 2) rfl rfl rfl ?_
  refine gArrLen X0 hx hZ e0 A (hb hby d_jdk_43_method_2_2) (pc' := 3) rfl ?_
  refine gCallS X0 hx hZ (y := (⟨"java/lang/String", "checkIndex", "(II)V"⟩ : MethodName)) hown e0 (by rw [hml]; rfl) (hw _ (List.mem_of_getElem? (i := 66) rfl)) (hw _ (List.mem_of_getElem? (i := 67) rfl)) (hw _ (List.mem_of_getElem? (i := 4) rfl)) (hw _ (List.mem_of_getElem? (i := 68) rfl)) (by decide) (argsL := [(.int (0 : Int32)), (.int (1 : Int32))]) (st := []) (c_chk_0_1 l Z a0 hw h0 hSio) (lenOf pd_6 rfl) (hb hby d_jdk_43_method_2_3) (pc' := 6) rfl rfl (by decide) (W := 0) (Nat.le_of_eq rfl) (by decide) (by decide) (by decide) ?_
  intro T1 v1 L1 X1 hQ1
  obtain ⟨rfl, eq1, rfl⟩ := hQ1
  rw [List.append_nil] at X1
  refine gLoadAN X1 hx (hb hby d_jdk_43_method_2_6) (pc' := 7) rfl rfl rfl ?_
  refine gLoadIN X1 hx (hb hby d_jdk_43_method_2_7) (pc' := 8) rfl rfl ?_
  refine gBaload X1 hx hZ eq1 A (j := (0 : Int32)) (v := (.int (c0.toInt8.toInt32))) (by decide) (by decide) rfl (hb hby d_jdk_43_method_2_8) (pc' := 9) rfl ?_
  refine gSipush X1 hx (v := (255 : Int32)) (hb hby d_jdk_43_method_2_9) (pc' := 12) rfl rfl ?_
  refine gIand X1 hx (hb hby d_jdk_43_method_2_12) (pc' := 13) rfl ?_
  refine gI2c X1 hx (hb hby d_jdk_43_method_2_13) (pc' := 14) rfl ?_
  rw [own_ch hc0]
  exact gRetN X1 hx hlk hret (by simp) (hb hby d_jdk_43_method_2_14) (w := c0) (own_nc (own_c8 hc0)) (by decide) (by decide) (⟨rfl, eq1, rfl⟩)
theorem d_jdk_42_method_56_0 : decode jdk_42_method_56_code 0 = .ok (.aload_n 0, 1) := by decide +kernel
theorem d_jdk_42_method_56_1 : decode jdk_42_method_56_code 1 = .ok (.invokevirtual 492, 3) := by decide +kernel
theorem pd_3 : parseMethodDescriptor "()Z" = some ⟨[], some .boolean⟩ := by decide +kernel
theorem d_jdk_42_method_56_4 : decode jdk_42_method_56_code 4 = .ok (.ifCond .eq 12, 3) := by decide +kernel
theorem d_jdk_42_method_56_7 : decode jdk_42_method_56_code 7 = .ok (.aload_n 0, 1) := by decide +kernel
theorem d_jdk_42_method_56_8 : decode jdk_42_method_56_code 8 = .ok (.getfield 9, 3) := by decide +kernel
theorem d_jdk_42_method_56_11 : decode jdk_42_method_56_code 11 = .ok (.iload_n 1, 1) := by decide +kernel
theorem d_jdk_42_method_56_12 : decode jdk_42_method_56_code 12 = .ok (.invokestatic 495, 3) := by decide +kernel
theorem pd_10 : parseMethodDescriptor "([BI)C" = some ⟨[(.array .byte), .int], some .char⟩ := by decide +kernel
theorem d_jdk_42_method_56_15 : decode jdk_42_method_56_code 15 = .ok (.ireturn, 1) := by decide +kernel
theorem ef_c_charAt_0_1 (m : MethodId) (a : Addr) : entryFrame m #[(.ref a), (.int (0 : Int32))] 2 = mkF m 0 #[.val (.ref a), .val (.int (0 : Int32))] [] := by first | (simp [entryFrame, mkF, argsToLocals, Value.category]; done) | rfl
set_option maxRecDepth 65536 in
set_option maxHeartbeats 40000000 in
theorem c_charAt_0_1 (l : Launch) (Z : State) (a0 : Array Value) (hw : ∀ d ∈ tables_1, d.before a0 Z = true) (a t : Addr) (ck : ClassId) (c0 : Int32) (h0 : Heap) (hSio : Sio Z h0) (hCpt : Cpt Z h0) (E : Exa Z h0 a "java/lang/String") (C : Fld Z h0 a "java/lang/String" "coder" "B" (.int 0)) (V : Fld Z h0 a "java/lang/String" "value" "[B" (.ref t)) (A : Arv Z h0 t ck .byte 1 [by8 c0] (.int 0)) (hc0 : 0 ≤ c0.toInt ∧ c0.toInt ≤ 255) :
    Ctr l Z (⟨"java/lang/String", "charAt", "(I)C"⟩ : MethodName) jdk_42_method_56_code 2 (some .char) [] ({ frames := 3, cells := 0, slots := 0, locals := 41 } : Room) #[(.ref a), (.int (0 : Int32))] h0 (Just h0 (.int c0)) := by
  refine Ctr.of (plainFor_of_name pn_3) ?_
  intro p e s m below meth c s₁ hx hby hml hret hown hnm hZ hlk X0 e0
  refine Goes.cast (ef_c_charAt_0_1 m a) ?_
  refine gLoadAN X0 hx (hb hby d_jdk_42_method_56_0) (pc' := 1) rfl rfl rfl ?_
  refine gCallVJ X0 hx hZ (y := (⟨"java/lang/String", "isLatin1", "()Z"⟩ : MethodName)) hown e0 (by rw [hml]; rfl) E (hw _ (List.mem_of_getElem? (i := 57) rfl)) (hw _ (List.mem_of_getElem? (i := 58) rfl)) (hw _ (List.mem_of_getElem? (i := 60) rfl)) (hw _ (List.mem_of_getElem? (i := 59) rfl)) (hw _ (List.mem_of_getElem? (i := 4) rfl)) (hw _ (List.mem_of_getElem? (i := 61) rfl)) (by decide) (argsL := []) (st := []) (c_isLatin1 l Z a0 hw a h0 hCpt C) (lenOf pd_3 rfl) (hb hby d_jdk_42_method_56_1) (pc' := 4) rfl rfl rfl rfl (by decide) (W := 0) (Nat.le_of_eq rfl) (by decide) (by decide) (by decide) ?_
  intro T1 X1 e1
  refine gIfEqT X1 hx (hb hby d_jdk_42_method_56_4) (pc' := 16) (by decide) (by decide) (pn := 7) rfl (fun (c4 : (1 : Int) = (0 : Int)) => ?_) (fun (c4 : ¬ (1 : Int) = (0 : Int)) => ?_)
  · exact absurd c4 (by decide)
  · refine gLoadAN X1 hx (hb hby d_jdk_42_method_56_7) (pc' := 8) rfl rfl rfl ?_
    refine gGetF X1 hx hZ hown (hw _ (List.mem_of_getElem? (i := 21) rfl)) Via.refl e1 V (hb hby d_jdk_42_method_56_8) (pc' := 11) rfl (fun T2 X2 e2 => ?_)
    refine gLoadIN X2 hx (hb hby d_jdk_42_method_56_11) (pc' := 12) rfl rfl ?_
    refine gCallSJ X2 hx hZ (y := (⟨"java/lang/StringLatin1", "charAt", "([BI)C"⟩ : MethodName)) hown e2 (by rw [hml]; rfl) (hw _ (List.mem_of_getElem? (i := 62) rfl)) (hw _ (List.mem_of_getElem? (i := 63) rfl)) (hw _ (List.mem_of_getElem? (i := 64) rfl)) (hw _ (List.mem_of_getElem? (i := 65) rfl)) (by decide) (argsL := [(.ref t), (.int (0 : Int32))]) (st := []) (c_charAt_0_1l l Z a0 hw t ck c0 h0 hSio A hc0) (lenOf pd_10 rfl) (hb hby d_jdk_42_method_56_12) (pc' := 15) rfl rfl rfl rfl (by decide) (W := 0) (Nat.le_of_eq rfl) (by decide) (by decide) (by decide) ?_
    intro T3 X3 e3
    exact gRetN X3 hx hlk hret (by simp) (hb hby d_jdk_42_method_56_15) (w := c0) (own_nc (own_c8 hc0)) (by decide) (by decide) (⟨rfl, e3, rfl⟩)
theorem d_prog_7_method_12_12 : decode prog_7_method_12_code 12 = .ok (.aload_n 0, 1) := by decide +kernel
theorem d_prog_7_method_12_13 : decode prog_7_method_12_code 13 = .ok (.iload_n 2, 1) := by decide +kernel
theorem d_prog_7_method_12_14 : decode prog_7_method_12_code 14 = .ok (.invokevirtual 34, 3) := by decide +kernel
theorem pd_5 : parseMethodDescriptor "(I)C" = some ⟨[.int], some .char⟩ := by decide +kernel
theorem d_prog_7_method_12_17 : decode prog_7_method_12_code 17 = .ok (.istore_n 3, 1) := by decide +kernel
theorem d_prog_7_method_12_18 : decode prog_7_method_12_code 18 = .ok (.iload_n 1, 1) := by decide +kernel
theorem d_prog_7_method_12_19 : decode prog_7_method_12_code 19 = .ok (.ifCond .eq 25, 3) := by decide +kernel
theorem d_prog_7_method_12_22 : decode prog_7_method_12_code 22 = .ok (.iload_n 3, 1) := by decide +kernel
theorem d_prog_7_method_12_23 : decode prog_7_method_12_code 23 = .ok (.bipush 32, 2) := by decide +kernel
theorem d_prog_7_method_12_25 : decode prog_7_method_12_code 25 = .ok (.if_icmp .ge 9, 3) := by decide +kernel
theorem d_prog_7_method_12_34 : decode prog_7_method_12_code 34 = .ok (.iload_n 3, 1) := by decide +kernel
theorem d_prog_7_method_12_35 : decode prog_7_method_12_code 35 = .ok (.bipush 127, 2) := by decide +kernel
theorem d_prog_7_method_12_37 : decode prog_7_method_12_code 37 = .ok (.if_icmp .eq 7, 3) := by decide +kernel
theorem d_prog_7_method_12_44 : decode prog_7_method_12_code 44 = .ok (.iconst 0, 1) := by decide +kernel
theorem d_prog_7_method_12_45 : decode prog_7_method_12_code 45 = .ok (.istore_n 1, 1) := by decide +kernel
theorem d_prog_7_method_12_46 : decode prog_7_method_12_code 46 = .ok (.iinc 2 1, 3) := by decide +kernel
theorem d_prog_7_method_12_49 : decode prog_7_method_12_code 49 = .ok (.goto (-45), 3) := by decide +kernel
theorem d_prog_7_method_12_40 : decode prog_7_method_12_code 40 = .ok (.iconst 1, 1) := by decide +kernel
theorem d_prog_7_method_12_41 : decode prog_7_method_12_code 41 = .ok (.goto 4, 3) := by decide +kernel
theorem d_prog_7_method_12_28 : decode prog_7_method_12_code 28 = .ok (.iload_n 3, 1) := by decide +kernel
theorem d_prog_7_method_12_29 : decode prog_7_method_12_code 29 = .ok (.bipush 9, 2) := by decide +kernel
theorem d_prog_7_method_12_31 : decode prog_7_method_12_code 31 = .ok (.if_icmp .ne 13, 3) := by decide +kernel
theorem ef_c_fv_1 (m : MethodId) (a : Addr) : entryFrame m #[(.ref a)] 4 = mkF m 0 #[.val (.ref a), .unset, .unset, .unset] [] := by first | (simp [entryFrame, mkF, argsToLocals, Value.category]; done) | rfl
set_option maxRecDepth 65536 in
set_option maxHeartbeats 40000000 in
theorem c_fv_1 (l : Launch) (Z : State) (a0 : Array Value) (hw : ∀ d ∈ tables_1, d.before a0 Z = true) (a t : Addr) (ck : ClassId) (c0 : Int32) (h0 : Heap) (hSio : Sio Z h0) (hCpt : Cpt Z h0) (E : Exa Z h0 a "java/lang/String") (C : Fld Z h0 a "java/lang/String" "coder" "B" (.int 0)) (V : Fld Z h0 a "java/lang/String" "value" "[B" (.ref t)) (A : Arv Z h0 t ck .byte 1 [by8 c0] (.int 0)) (hc0 : 0 ≤ c0.toInt ∧ c0.toInt ≤ 255) :
    Ctr l Z (⟨"com/example/anteroom/anteroom/HttpSyntax", "isFieldValue", "(Ljava/lang/String;)Z"⟩ : MethodName) prog_7_method_12_code 4 (some .boolean) [] ({ frames := 4, cells := 0, slots := 0, locals := 56 } : Room) #[(.ref a)] h0 (Just h0 (.int (b2i (decide ((c0.toInt = 9 ∨ 32 ≤ c0.toInt ∧ c0.toInt ≠ 127)))))) := by
  refine Ctr.of (plainFor_of_name pn_0) ?_
  intro p e s m below meth c s₁ hx hby hml hret hown hnm hZ hlk X0 e0
  refine Goes.cast (ef_c_fv_1 m a) ?_
  refine gIconst X0 hx (v := (1 : Int32)) (hb hby d_prog_7_method_12_0) (pc' := 1) rfl rfl ?_
  refine gStoreIN X0 hx (hb hby d_prog_7_method_12_1) (l' := #[.val (.ref a), .val (.int (1 : Int32)), .unset, .unset]) (pc' := 2) rfl rfl ?_
  refine gIconst X0 hx (v := (0 : Int32)) (hb hby d_prog_7_method_12_2) (pc' := 3) rfl rfl ?_
  refine gStoreIN X0 hx (hb hby d_prog_7_method_12_3) (l' := #[.val (.ref a), .val (.int (1 : Int32)), .val (.int (0 : Int32)), .unset]) (pc' := 4) rfl rfl ?_
  refine gLoadIN X0 hx (hb hby d_prog_7_method_12_4) (pc' := 5) rfl rfl ?_
  refine gLoadAN X0 hx (hb hby d_prog_7_method_12_5) (pc' := 6) rfl rfl rfl ?_
  refine gCallVJ X0 hx hZ (y := (⟨"java/lang/String", "length", "()I"⟩ : MethodName)) hown e0 (by rw [hml]; rfl) E (hw _ (List.mem_of_getElem? (i := 27) rfl)) (hw _ (List.mem_of_getElem? (i := 28) rfl)) (hw _ (List.mem_of_getElem? (i := 30) rfl)) (hw _ (List.mem_of_getElem? (i := 29) rfl)) (hw _ (List.mem_of_getElem? (i := 4) rfl)) (hw _ (List.mem_of_getElem? (i := 31) rfl)) (by decide) (argsL := []) (st := [(.int (0 : Int32))]) (c_length_1 l Z a0 hw a t ck c0 h0 hCpt E C V A hc0) (lenOf pd_1 rfl) (hb hby d_prog_7_method_12_6) (pc' := 9) rfl rfl rfl rfl (by decide) (W := 1) (Nat.le_of_eq rfl) (by decide) (by decide) (by decide) ?_
  intro T1 X1 e1
  refine gIcmpGe X1 hx (hb hby d_prog_7_method_12_9) (pc' := 52) (by decide) (by decide) (pn := 12) rfl (fun (c9 : (1 : Int) ≤ (0 : Int)) => ?_) (fun (c9 : (0 : Int) < (1 : Int)) => ?_)
  · exact absurd c9 (by decide)
  · refine gLoadAN X1 hx (hb hby d_prog_7_method_12_12) (pc' := 13) rfl rfl rfl ?_
    refine gLoadIN X1 hx (hb hby d_prog_7_method_12_13) (pc' := 14) rfl rfl ?_
    refine gCallVJ X1 hx hZ (y := (⟨"java/lang/String", "charAt", "(I)C"⟩ : MethodName)) hown e1 (by rw [hml]; rfl) E (hw _ (List.mem_of_getElem? (i := 52) rfl)) (hw _ (List.mem_of_getElem? (i := 53) rfl)) (hw _ (List.mem_of_getElem? (i := 55) rfl)) (hw _ (List.mem_of_getElem? (i := 54) rfl)) (hw _ (List.mem_of_getElem? (i := 4) rfl)) (hw _ (List.mem_of_getElem? (i := 56) rfl)) (by decide) (argsL := [(.int (0 : Int32))]) (st := []) (c_charAt_0_1 l Z a0 hw a t ck c0 h0 hSio hCpt E C V A hc0) (lenOf pd_5 rfl) (hb hby d_prog_7_method_12_14) (pc' := 17) rfl rfl rfl rfl (by decide) (W := 0) (Nat.le_of_eq rfl) (by decide) (by decide) (by decide) ?_
    intro T2 X2 e2
    refine gStoreIN X2 hx (hb hby d_prog_7_method_12_17) (l' := #[.val (.ref a), .val (.int (1 : Int32)), .val (.int (0 : Int32)), .val (.int c0)]) (pc' := 18) rfl rfl ?_
    refine gLoadIN X2 hx (hb hby d_prog_7_method_12_18) (pc' := 19) rfl rfl ?_
    refine gIfEqT X2 hx (hb hby d_prog_7_method_12_19) (pc' := 44) (by decide) (by decide) (pn := 22) rfl (fun (c19 : (1 : Int) = (0 : Int)) => ?_) (fun (c19 : ¬ (1 : Int) = (0 : Int)) => ?_)
    · exact absurd c19 (by decide)
    · refine gLoadIN X2 hx (hb hby d_prog_7_method_12_22) (pc' := 23) rfl rfl ?_
      refine gBipush X2 hx (v := (32 : Int32)) (hb hby d_prog_7_method_12_23) (pc' := 25) rfl rfl ?_
      refine gIcmpGe X2 hx (hb hby d_prog_7_method_12_25) (pc' := 34) (by decide) (by decide) (pn := 28) rfl (fun (c25 : (32 : Int) ≤ c0.toInt) => ?_) (fun (c25 : c0.toInt < (32 : Int)) => ?_)
      · refine gLoadIN X2 hx (hb hby d_prog_7_method_12_34) (pc' := 35) rfl rfl ?_
        refine gBipush X2 hx (v := (127 : Int32)) (hb hby d_prog_7_method_12_35) (pc' := 37) rfl rfl ?_
        refine gIcmpEqT X2 hx (hb hby d_prog_7_method_12_37) (pc' := 44) (by decide) (by decide) (pn := 40) rfl (fun (c37 : c0.toInt = (127 : Int)) => ?_) (fun (c37 : ¬ c0.toInt = (127 : Int)) => ?_)
        · refine gIconst X2 hx (v := (0 : Int32)) (hb hby d_prog_7_method_12_44) (pc' := 45) rfl rfl ?_
          refine gStoreIN X2 hx (hb hby d_prog_7_method_12_45) (l' := #[.val (.ref a), .val (.int (0 : Int32)), .val (.int (0 : Int32)), .val (.int c0)]) (pc' := 46) rfl rfl ?_
          refine gIinc X2 hx (v := (1 : Int32)) (hb hby d_prog_7_method_12_46) (l' := #[.val (.ref a), .val (.int (0 : Int32)), .val (.int (1 : Int32)), .val (.int c0)]) (pc' := 49) rfl rfl rfl rfl ?_
          refine gGoto X2 hx (hb hby d_prog_7_method_12_49) (pc' := 4) (by decide) (by decide) ?_
          refine gLoadIN X2 hx (hb hby d_prog_7_method_12_4) (pc' := 5) rfl rfl ?_
          refine gLoadAN X2 hx (hb hby d_prog_7_method_12_5) (pc' := 6) rfl rfl rfl ?_
          refine gCallVJ X2 hx hZ (y := (⟨"java/lang/String", "length", "()I"⟩ : MethodName)) hown e2 (by rw [hml]; rfl) E (hw _ (List.mem_of_getElem? (i := 27) rfl)) (hw _ (List.mem_of_getElem? (i := 28) rfl)) (hw _ (List.mem_of_getElem? (i := 30) rfl)) (hw _ (List.mem_of_getElem? (i := 29) rfl)) (hw _ (List.mem_of_getElem? (i := 4) rfl)) (hw _ (List.mem_of_getElem? (i := 31) rfl)) (by decide) (argsL := []) (st := [(.int (1 : Int32))]) (c_length_1 l Z a0 hw a t ck c0 h0 hCpt E C V A hc0) (lenOf pd_1 rfl) (hb hby d_prog_7_method_12_6) (pc' := 9) rfl rfl rfl rfl (by decide) (W := 1) (Nat.le_of_eq rfl) (by decide) (by decide) (by decide) ?_
          intro T3 X3 e3
          refine gIcmpGe X3 hx (hb hby d_prog_7_method_12_9) (pc' := 52) (by decide) (by decide) (pn := 12) rfl (fun (c9' : (1 : Int) ≤ (1 : Int)) => ?_) (fun (c9' : (1 : Int) < (1 : Int)) => ?_)
          · refine gLoadIN X3 hx (hb hby d_prog_7_method_12_52) (pc' := 53) rfl rfl ?_
            exact gRetN X3 hx hlk hret (by simp) (hb hby d_prog_7_method_12_53) (w := (0 : Int32)) rfl (by decide) (by decide) (just_f (by omega) e3)
          · exact absurd c9' (by decide)
        · refine gIconst X2 hx (v := (1 : Int32)) (hb hby d_prog_7_method_12_40) (pc' := 41) rfl rfl ?_
          refine gGoto X2 hx (hb hby d_prog_7_method_12_41) (pc' := 45) (by decide) (by decide) ?_
          refine gStoreIN X2 hx (hb hby d_prog_7_method_12_45) (l' := #[.val (.ref a), .val (.int (1 : Int32)), .val (.int (0 : Int32)), .val (.int c0)]) (pc' := 46) rfl rfl ?_
          refine gIinc X2 hx (v := (1 : Int32)) (hb hby d_prog_7_method_12_46) (l' := #[.val (.ref a), .val (.int (1 : Int32)), .val (.int (1 : Int32)), .val (.int c0)]) (pc' := 49) rfl rfl rfl rfl ?_
          refine gGoto X2 hx (hb hby d_prog_7_method_12_49) (pc' := 4) (by decide) (by decide) ?_
          refine gLoadIN X2 hx (hb hby d_prog_7_method_12_4) (pc' := 5) rfl rfl ?_
          refine gLoadAN X2 hx (hb hby d_prog_7_method_12_5) (pc' := 6) rfl rfl rfl ?_
          refine gCallVJ X2 hx hZ (y := (⟨"java/lang/String", "length", "()I"⟩ : MethodName)) hown e2 (by rw [hml]; rfl) E (hw _ (List.mem_of_getElem? (i := 27) rfl)) (hw _ (List.mem_of_getElem? (i := 28) rfl)) (hw _ (List.mem_of_getElem? (i := 30) rfl)) (hw _ (List.mem_of_getElem? (i := 29) rfl)) (hw _ (List.mem_of_getElem? (i := 4) rfl)) (hw _ (List.mem_of_getElem? (i := 31) rfl)) (by decide) (argsL := []) (st := [(.int (1 : Int32))]) (c_length_1 l Z a0 hw a t ck c0 h0 hCpt E C V A hc0) (lenOf pd_1 rfl) (hb hby d_prog_7_method_12_6) (pc' := 9) rfl rfl rfl rfl (by decide) (W := 1) (Nat.le_of_eq rfl) (by decide) (by decide) (by decide) ?_
          intro T4 X4 e4
          refine gIcmpGe X4 hx (hb hby d_prog_7_method_12_9) (pc' := 52) (by decide) (by decide) (pn := 12) rfl (fun (c9' : (1 : Int) ≤ (1 : Int)) => ?_) (fun (c9' : (1 : Int) < (1 : Int)) => ?_)
          · refine gLoadIN X4 hx (hb hby d_prog_7_method_12_52) (pc' := 53) rfl rfl ?_
            exact gRetN X4 hx hlk hret (by simp) (hb hby d_prog_7_method_12_53) (w := (1 : Int32)) rfl (by decide) (by decide) (just_t (by omega) e4)
          · exact absurd c9' (by decide)
      · refine gLoadIN X2 hx (hb hby d_prog_7_method_12_28) (pc' := 29) rfl rfl ?_
        refine gBipush X2 hx (v := (9 : Int32)) (hb hby d_prog_7_method_12_29) (pc' := 31) rfl rfl ?_
        refine gIcmpNeT X2 hx (hb hby d_prog_7_method_12_31) (pc' := 44) (by decide) (by decide) (pn := 34) rfl (fun (c31 : ¬ c0.toInt = (9 : Int)) => ?_) (fun (c31 : c0.toInt = (9 : Int)) => ?_)
        · refine gIconst X2 hx (v := (0 : Int32)) (hb hby d_prog_7_method_12_44) (pc' := 45) rfl rfl ?_
          refine gStoreIN X2 hx (hb hby d_prog_7_method_12_45) (l' := #[.val (.ref a), .val (.int (0 : Int32)), .val (.int (0 : Int32)), .val (.int c0)]) (pc' := 46) rfl rfl ?_
          refine gIinc X2 hx (v := (1 : Int32)) (hb hby d_prog_7_method_12_46) (l' := #[.val (.ref a), .val (.int (0 : Int32)), .val (.int (1 : Int32)), .val (.int c0)]) (pc' := 49) rfl rfl rfl rfl ?_
          refine gGoto X2 hx (hb hby d_prog_7_method_12_49) (pc' := 4) (by decide) (by decide) ?_
          refine gLoadIN X2 hx (hb hby d_prog_7_method_12_4) (pc' := 5) rfl rfl ?_
          refine gLoadAN X2 hx (hb hby d_prog_7_method_12_5) (pc' := 6) rfl rfl rfl ?_
          refine gCallVJ X2 hx hZ (y := (⟨"java/lang/String", "length", "()I"⟩ : MethodName)) hown e2 (by rw [hml]; rfl) E (hw _ (List.mem_of_getElem? (i := 27) rfl)) (hw _ (List.mem_of_getElem? (i := 28) rfl)) (hw _ (List.mem_of_getElem? (i := 30) rfl)) (hw _ (List.mem_of_getElem? (i := 29) rfl)) (hw _ (List.mem_of_getElem? (i := 4) rfl)) (hw _ (List.mem_of_getElem? (i := 31) rfl)) (by decide) (argsL := []) (st := [(.int (1 : Int32))]) (c_length_1 l Z a0 hw a t ck c0 h0 hCpt E C V A hc0) (lenOf pd_1 rfl) (hb hby d_prog_7_method_12_6) (pc' := 9) rfl rfl rfl rfl (by decide) (W := 1) (Nat.le_of_eq rfl) (by decide) (by decide) (by decide) ?_
          intro T5 X5 e5
          refine gIcmpGe X5 hx (hb hby d_prog_7_method_12_9) (pc' := 52) (by decide) (by decide) (pn := 12) rfl (fun (c9' : (1 : Int) ≤ (1 : Int)) => ?_) (fun (c9' : (1 : Int) < (1 : Int)) => ?_)
          · refine gLoadIN X5 hx (hb hby d_prog_7_method_12_52) (pc' := 53) rfl rfl ?_
            exact gRetN X5 hx hlk hret (by simp) (hb hby d_prog_7_method_12_53) (w := (0 : Int32)) rfl (by decide) (by decide) (just_f (by omega) e5)
          · exact absurd c9' (by decide)
        · refine gLoadIN X2 hx (hb hby d_prog_7_method_12_34) (pc' := 35) rfl rfl ?_
          refine gBipush X2 hx (v := (127 : Int32)) (hb hby d_prog_7_method_12_35) (pc' := 37) rfl rfl ?_
          refine gIcmpEqT X2 hx (hb hby d_prog_7_method_12_37) (pc' := 44) (by decide) (by decide) (pn := 40) rfl (fun (c37 : c0.toInt = (127 : Int)) => ?_) (fun (c37 : ¬ c0.toInt = (127 : Int)) => ?_)
          · exact absurd c37 (by omega)
          · refine gIconst X2 hx (v := (1 : Int32)) (hb hby d_prog_7_method_12_40) (pc' := 41) rfl rfl ?_
            refine gGoto X2 hx (hb hby d_prog_7_method_12_41) (pc' := 45) (by decide) (by decide) ?_
            refine gStoreIN X2 hx (hb hby d_prog_7_method_12_45) (l' := #[.val (.ref a), .val (.int (1 : Int32)), .val (.int (0 : Int32)), .val (.int c0)]) (pc' := 46) rfl rfl ?_
            refine gIinc X2 hx (v := (1 : Int32)) (hb hby d_prog_7_method_12_46) (l' := #[.val (.ref a), .val (.int (1 : Int32)), .val (.int (1 : Int32)), .val (.int c0)]) (pc' := 49) rfl rfl rfl rfl ?_
            refine gGoto X2 hx (hb hby d_prog_7_method_12_49) (pc' := 4) (by decide) (by decide) ?_
            refine gLoadIN X2 hx (hb hby d_prog_7_method_12_4) (pc' := 5) rfl rfl ?_
            refine gLoadAN X2 hx (hb hby d_prog_7_method_12_5) (pc' := 6) rfl rfl rfl ?_
            refine gCallVJ X2 hx hZ (y := (⟨"java/lang/String", "length", "()I"⟩ : MethodName)) hown e2 (by rw [hml]; rfl) E (hw _ (List.mem_of_getElem? (i := 27) rfl)) (hw _ (List.mem_of_getElem? (i := 28) rfl)) (hw _ (List.mem_of_getElem? (i := 30) rfl)) (hw _ (List.mem_of_getElem? (i := 29) rfl)) (hw _ (List.mem_of_getElem? (i := 4) rfl)) (hw _ (List.mem_of_getElem? (i := 31) rfl)) (by decide) (argsL := []) (st := [(.int (1 : Int32))]) (c_length_1 l Z a0 hw a t ck c0 h0 hCpt E C V A hc0) (lenOf pd_1 rfl) (hb hby d_prog_7_method_12_6) (pc' := 9) rfl rfl rfl rfl (by decide) (W := 1) (Nat.le_of_eq rfl) (by decide) (by decide) (by decide) ?_
            intro T6 X6 e6
            refine gIcmpGe X6 hx (hb hby d_prog_7_method_12_9) (pc' := 52) (by decide) (by decide) (pn := 12) rfl (fun (c9' : (1 : Int) ≤ (1 : Int)) => ?_) (fun (c9' : (1 : Int) < (1 : Int)) => ?_)
            · refine gLoadIN X6 hx (hb hby d_prog_7_method_12_52) (pc' := 53) rfl rfl ?_
              exact gRetN X6 hx hlk hret (by simp) (hb hby d_prog_7_method_12_53) (w := (1 : Int32)) rfl (by decide) (by decide) (just_t (by omega) e6)
            · exact absurd c9' (by decide)
theorem ef_c_length_2 (m : MethodId) (a : Addr) : entryFrame m #[(.ref a)] 1 = mkF m 0 #[.val (.ref a)] [] := by first | (simp [entryFrame, mkF, argsToLocals, Value.category]; done) | rfl
set_option maxRecDepth 65536 in
set_option maxHeartbeats 40000000 in
theorem c_length_2 (l : Launch) (Z : State) (a0 : Array Value) (hw : ∀ d ∈ tables_1, d.before a0 Z = true) (a t : Addr) (ck : ClassId) (c0 c1 : Int32) (h0 : Heap) (hCpt : Cpt Z h0) (E : Exa Z h0 a "java/lang/String") (C : Fld Z h0 a "java/lang/String" "coder" "B" (.int 0)) (V : Fld Z h0 a "java/lang/String" "value" "[B" (.ref t)) (A : Arv Z h0 t ck .byte 2 [by8 c0, by8 c1] (.int 0)) (hc0 : 0 ≤ c0.toInt ∧ c0.toInt ≤ 255) (hc1 : 0 ≤ c1.toInt ∧ c1.toInt ≤ 255) :
    Ctr l Z (⟨"java/lang/String", "length", "()I"⟩ : MethodName) jdk_42_method_54_code 1 (some .int) [] ({ frames := 1, cells := 0, slots := 0, locals := 13 } : Room) #[(.ref a)] h0 (Just h0 (.int 2)) := by
  refine Ctr.of (plainFor_of_name pn_3) ?_
  intro p e s m below meth c s₁ hx hby hml hret hown hnm hZ hlk X0 e0
  refine Goes.cast (ef_c_length_2 m a) ?_
  refine gLoadAN X0 hx (hb hby d_jdk_42_method_54_0) (pc' := 1) rfl rfl rfl ?_
  refine gGetF X0 hx hZ hown (hw _ (List.mem_of_getElem? (i := 21) rfl)) Via.refl e0 V (hb hby d_jdk_42_method_54_1) (pc' := 4) rfl (fun T1 X1 e1 => ?_)
  refine gArrLen X1 hx hZ e1 A (hb hby d_jdk_42_method_54_4) (pc' := 5) rfl ?_
  refine gLoadAN X1 hx (hb hby d_jdk_42_method_54_5) (pc' := 6) rfl rfl rfl ?_
  refine gCallVJ X1 hx hZ (y := (⟨"java/lang/String", "coder", "()B"⟩ : MethodName)) hown e1 (by rw [hml]; rfl) E (hw _ (List.mem_of_getElem? (i := 32) rfl)) (hw _ (List.mem_of_getElem? (i := 33) rfl)) (hw _ (List.mem_of_getElem? (i := 35) rfl)) (hw _ (List.mem_of_getElem? (i := 34) rfl)) (hw _ (List.mem_of_getElem? (i := 4) rfl)) (hw _ (List.mem_of_getElem? (i := 36) rfl)) (by decide) (argsL := []) (st := [(.int (2 : Int32))]) (c_coder l Z a0 hw a h0 hCpt C) (lenOf pd_0 rfl) (hb hby d_jdk_42_method_54_6) (pc' := 9) rfl rfl rfl rfl (by decide) (W := 1) (Nat.le_of_eq rfl) (by decide) (by decide) (by decide) ?_
  intro T2 X2 e2
  refine gIshr X2 hx (hb hby d_jdk_42_method_54_9) (pc' := 10) rfl ?_
  show Goes p e below _ T2 (mkF m 10 #[.val (.ref a)] [(.int (2 : Int32))])
  exact gRetI X2 hx hlk hret (hb hby d_jdk_42_method_54_10) (by decide) (by decide) (⟨rfl, e2, rfl⟩)
theorem ef_c_chk_0_2p (m : MethodId) (sf : Value) (hsf : sf.isRef = true) : entryFrame m #[(.int (0 : Int32)), (.int (2 : Int32)), sf] 3 = mkF m 0 #[.val (.int (0 : Int32)), .val (.int (2 : Int32)), .val sf] [] := by rcases ref_cases hsf with rfl | ⟨_, rfl⟩ <;> (first | (simp [entryFrame, mkF, argsToLocals, Value.category]; done) | rfl)
set_option maxRecDepth 65536 in
set_option maxHeartbeats 40000000 in
theorem c_chk_0_2p (l : Launch) (Z : State) (a0 : Array Value) (hw : ∀ d ∈ tables_1, d.before a0 Z = true) (sf : Value) (hsf : sf.isRef = true) (h0 : Heap)  :
    Ctr l Z (⟨"jdk/internal/util/Preconditions", "checkIndex", "(IILjava/util/function/BiFunction;)I"⟩ : MethodName) jdk_41_method_11_code 3 (some .int) [] ({ frames := 0, cells := 0, slots := 0, locals := 0 } : Room) #[(.int (0 : Int32)), (.int (2 : Int32)), sf] h0 (Just h0 (.int 0)) := by
  refine Ctr.of (plainFor_of_name pn_6) ?_
  intro p e s m below meth c s₁ hx hby hml hret hown hnm hZ hlk X0 e0
  refine Goes.cast (ef_c_chk_0_2p m sf hsf) ?_
  refine gLoadIN X0 hx (hb hby d_jdk_41_method_11_0) (pc' := 1) rfl rfl ?_
  refine gIfLt X0 hx (hb hby d_jdk_41_method_11_1) (pc' := 9) (by decide) (by decide) (pn := 4) rfl (fun (c1 : (0 : Int) < (0 : Int)) => ?_) (fun (c1 : (0 : Int) ≤ (0 : Int)) => ?_)
  · exact absurd c1 (by decide)
  · refine gLoadIN X0 hx (hb hby d_jdk_41_method_11_4) (pc' := 5) rfl rfl ?_
    refine gLoadIN X0 hx (hb hby d_jdk_41_method_11_5) (pc' := 6) rfl rfl ?_
    refine gIcmpLt X0 hx (hb hby d_jdk_41_method_11_6) (pc' := 16) (by decide) (by decide) (pn := 9) rfl (fun (c6 : (0 : Int) < (2 : Int)) => ?_) (fun (c6 : (2 : Int) ≤ (0 : Int)) => ?_)
    · refine gLoadIN X0 hx (hb hby d_jdk_41_method_11_16) (pc' := 17) rfl rfl ?_
      exact gRetI X0 hx hlk hret (hb hby d_jdk_41_method_11_17) (by decide) (by decide) (⟨rfl, e0, rfl⟩)
    · exact absurd c6 (by decide)
theorem ef_c_chk_0_2 (m : MethodId)  : entryFrame m #[(.int (0 : Int32)), (.int (2 : Int32))] 2 = mkF m 0 #[.val (.int (0 : Int32)), .val (.int (2 : Int32))] [] := by first | (simp [entryFrame, mkF, argsToLocals, Value.category]; done) | rfl
set_option maxRecDepth 65536 in
set_option maxHeartbeats 40000000 in
theorem c_chk_0_2 (l : Launch) (Z : State) (a0 : Array Value) (hw : ∀ d ∈ tables_1, d.before a0 Z = true)  (h0 : Heap) (hSio : Sio Z h0) :
    Ctr l Z (⟨"java/lang/String", "checkIndex", "(II)V"⟩ : MethodName) jdk_42_method_155_code 2 none [] ({ frames := 1, cells := 0, slots := 0, locals := 14 } : Room) #[(.int (0 : Int32)), (.int (2 : Int32))] h0 (fun v h L => v = none ∧ h = h0 ∧ L = []) := by
  refine Ctr.of (plainFor_of_name pn_3) ?_
  intro p e s m below meth c s₁ hx hby hml hret hown hnm hZ hlk X0 e0
  refine Goes.cast (ef_c_chk_0_2 m ) ?_
  obtain ⟨sf, SF, hsf⟩ := hSio
  refine gLoadIN X0 hx (hb hby d_jdk_42_method_155_0) (pc' := 1) rfl rfl ?_
  refine gLoadIN X0 hx (hb hby d_jdk_42_method_155_1) (pc' := 2) rfl rfl ?_
  refine gGetS X0 hx hZ hown (hw _ (List.mem_of_getElem? (i := 69) rfl)) Via.refl e0 SF (hb hby d_jdk_42_method_155_2) (pc' := 5) rfl (fun T1 X1 e1 => ?_)
  refine gCallSJ X1 hx hZ (y := (⟨"jdk/internal/util/Preconditions", "checkIndex", "(IILjava/util/function/BiFunction;)I"⟩ : MethodName)) hown e1 (by rw [hml]; rfl) (hw _ (List.mem_of_getElem? (i := 71) rfl)) (hw _ (List.mem_of_getElem? (i := 72) rfl)) (hw _ (List.mem_of_getElem? (i := 70) rfl)) (hw _ (List.mem_of_getElem? (i := 73) rfl)) (by decide) (argsL := [(.int (0 : Int32)), (.int (2 : Int32)), sf]) (st := []) (c_chk_0_2p l Z a0 hw sf hsf h0) (lenOf pd_7 rfl) (hb hby d_jdk_42_method_155_5) (pc' := 8) rfl rfl rfl rfl (by decide) (W := 0) (Nat.le_of_eq rfl) (by decide) (by decide) (by decide) ?_
  intro T2 X2 e2
  refine gPop X2 hx (hb hby d_jdk_42_method_155_8) (pc' := 9) rfl rfl ?_
  exact gRetV X2 hx hlk hret (hb hby d_jdk_42_method_155_9) (by decide) (by decide) (⟨rfl, e2, rfl⟩)
theorem ef_c_charAt_0_2l (m : MethodId) (t : Addr) : entryFrame m #[(.ref t), (.int (0 : Int32))] 2 = mkF m 0 #[.val (.ref t), .val (.int (0 : Int32))] [] := by first | (simp [entryFrame, mkF, argsToLocals, Value.category]; done) | rfl
set_option maxRecDepth 65536 in
set_option maxHeartbeats 40000000 in
theorem c_charAt_0_2l (l : Launch) (Z : State) (a0 : Array Value) (hw : ∀ d ∈ tables_1, d.before a0 Z = true) (t : Addr) (ck : ClassId) (c0 c1 : Int32) (h0 : Heap) (hSio : Sio Z h0) (A : Arv Z h0 t ck .byte 2 [by8 c0, by8 c1] (.int 0)) (hc0 : 0 ≤ c0.toInt ∧ c0.toInt ≤ 255) (hc1 : 0 ≤ c1.toInt ∧ c1.toInt ≤ 255) :
    Ctr l Z (⟨"java/lang/StringLatin1", "charAt", "([BI)C"⟩ : MethodName) jdk_43_method_2_code 2 (some .char) [] ({ frames := 2, cells := 0, slots := 0, locals := 28 } : Room) #[(.ref t), (.int (0 : Int32))] h0 (Just h0 (.int c0)) := by
  refine Ctr.of (plainFor_of_name pn_4) ?_
  intro p e s m below meth c s₁ hx hby hml hret hown hnm hZ hlk X0 e0
  refine Goes.cast (ef_c_charAt_0_2l m t) ?_
  refine gLoadIN X0 hx (hb hby d_jdk_43_method_2_0) (pc' := 1) rfl rfl ?_
  refine gLoadAN X0 hx (hb hby d_jdk_43_method_2_1) (pc' := 2) rfl rfl rfl ?_
  refine gArrLen X0 hx hZ e0 A (hb hby d_jdk_43_method_2_2) (pc' := 3) rfl ?_
  refine gCallS X0 hx hZ (y := (⟨"java/lang/String", "checkIndex", "(II)V"⟩ : MethodName)) hown e0 (by rw [hml]; rfl) (hw _ (List.mem_of_getElem? (i := 66) rfl)) (hw _ (List.mem_of_getElem? (i := 67) rfl)) (hw _ (List.mem_of_getElem? (i := 4) rfl)) (hw _ (List.mem_of_getElem? (i := 68) rfl)) (by decide) (argsL := [(.int (0 : Int32)), (.int (2 : Int32))]) (st := []) (c_chk_0_2 l Z a0 hw h0 hSio) (lenOf pd_6 rfl) (hb hby d_jdk_43_method_2_3) (pc' := 6) rfl rfl (by decide) (W := 0) (Nat.le_of_eq rfl) (by decide) (by decide) (by decide) ?_
  intro T1 v1 L1 X1 hQ1
  obtain ⟨rfl, eq1, rfl⟩ := hQ1
  rw [List.append_nil] at X1
  refine gLoadAN X1 hx (hb hby d_jdk_43_method_2_6) (pc' := 7) rfl rfl rfl ?_
  refine gLoadIN X1 hx (hb hby d_jdk_43_method_2_7) (pc' := 8) rfl rfl ?_
  refine gBaload X1 hx hZ eq1 A (j := (0 : Int32)) (v := (.int (c0.toInt8.toInt32))) (by decide) (by decide) rfl (hb hby d_jdk_43_method_2_8) (pc' := 9) rfl ?_
  refine gSipush X1 hx (v := (255 : Int32)) (hb hby d_jdk_43_method_2_9) (pc' := 12) rfl rfl ?_
  refine gIand X1 hx (hb hby d_jdk_43_method_2_12) (pc' := 13) rfl ?_
  refine gI2c X1 hx (hb hby d_jdk_43_method_2_13) (pc' := 14) rfl ?_
  rw [own_ch hc0]
  exact gRetN X1 hx hlk hret (by simp) (hb hby d_jdk_43_method_2_14) (w := c0) (own_nc (own_c8 hc0)) (by decide) (by decide) (⟨rfl, eq1, rfl⟩)
theorem ef_c_charAt_0_2 (m : MethodId) (a : Addr) : entryFrame m #[(.ref a), (.int (0 : Int32))] 2 = mkF m 0 #[.val (.ref a), .val (.int (0 : Int32))] [] := by first | (simp [entryFrame, mkF, argsToLocals, Value.category]; done) | rfl
set_option maxRecDepth 65536 in
set_option maxHeartbeats 40000000 in
theorem c_charAt_0_2 (l : Launch) (Z : State) (a0 : Array Value) (hw : ∀ d ∈ tables_1, d.before a0 Z = true) (a t : Addr) (ck : ClassId) (c0 c1 : Int32) (h0 : Heap) (hSio : Sio Z h0) (hCpt : Cpt Z h0) (E : Exa Z h0 a "java/lang/String") (C : Fld Z h0 a "java/lang/String" "coder" "B" (.int 0)) (V : Fld Z h0 a "java/lang/String" "value" "[B" (.ref t)) (A : Arv Z h0 t ck .byte 2 [by8 c0, by8 c1] (.int 0)) (hc0 : 0 ≤ c0.toInt ∧ c0.toInt ≤ 255) (hc1 : 0 ≤ c1.toInt ∧ c1.toInt ≤ 255) :
    Ctr l Z (⟨"java/lang/String", "charAt", "(I)C"⟩ : MethodName) jdk_42_method_56_code 2 (some .char) [] ({ frames := 3, cells := 0, slots := 0, locals := 41 } : Room) #[(.ref a), (.int (0 : Int32))] h0 (Just h0 (.int c0)) := by
  refine Ctr.of (plainFor_of_name pn_3) ?_
  intro p e s m below meth c s₁ hx hby hml hret hown hnm hZ hlk X0 e0
  refine Goes.cast (ef_c_charAt_0_2 m a) ?_
  refine gLoadAN X0 hx (hb hby d_jdk_42_method_56_0) (pc' := 1) rfl rfl rfl ?_
  refine gCallVJ X0 hx hZ (y := (⟨"java/lang/String", "isLatin1", "()Z"⟩ : MethodName)) hown e0 (by rw [hml]; rfl) E (hw _ (List.mem_of_getElem? (i := 57) rfl)) (hw _ (List.mem_of_getElem? (i := 58) rfl)) (hw _ (List.mem_of_getElem? (i := 60) rfl)) (hw _ (List.mem_of_getElem? (i := 59) rfl)) (hw _ (List.mem_of_getElem? (i := 4) rfl)) (hw _ (List.mem_of_getElem? (i := 61) rfl)) (by decide) (argsL := []) (st := []) (c_isLatin1 l Z a0 hw a h0 hCpt C) (lenOf pd_3 rfl) (hb hby d_jdk_42_method_56_1) (pc' := 4) rfl rfl rfl rfl (by decide) (W := 0) (Nat.le_of_eq rfl) (by decide) (by decide) (by decide) ?_
  intro T1 X1 e1
  refine gIfEqT X1 hx (hb hby d_jdk_42_method_56_4) (pc' := 16) (by decide) (by decide) (pn := 7) rfl (fun (c4 : (1 : Int) = (0 : Int)) => ?_) (fun (c4 : ¬ (1 : Int) = (0 : Int)) => ?_)
  · exact absurd c4 (by decide)
  · refine gLoadAN X1 hx (hb hby d_jdk_42_method_56_7) (pc' := 8) rfl rfl rfl ?_
    refine gGetF X1 hx hZ hown (hw _ (List.mem_of_getElem? (i := 21) rfl)) Via.refl e1 V (hb hby d_jdk_42_method_56_8) (pc' := 11) rfl (fun T2 X2 e2 => ?_)
    refine gLoadIN X2 hx (hb hby d_jdk_42_method_56_11) (pc' := 12) rfl rfl ?_
    refine gCallSJ X2 hx hZ (y := (⟨"java/lang/StringLatin1", "charAt", "([BI)C"⟩ : MethodName)) hown e2 (by rw [hml]; rfl) (hw _ (List.mem_of_getElem? (i := 62) rfl)) (hw _ (List.mem_of_getElem? (i := 63) rfl)) (hw _ (List.mem_of_getElem? (i := 64) rfl)) (hw _ (List.mem_of_getElem? (i := 65) rfl)) (by decide) (argsL := [(.ref t), (.int (0 : Int32))]) (st := []) (c_charAt_0_2l l Z a0 hw t ck c0 c1 h0 hSio A hc0 hc1) (lenOf pd_10 rfl) (hb hby d_jdk_42_method_56_12) (pc' := 15) rfl rfl rfl rfl (by decide) (W := 0) (Nat.le_of_eq rfl) (by decide) (by decide) (by decide) ?_
    intro T3 X3 e3
    exact gRetN X3 hx hlk hret (by simp) (hb hby d_jdk_42_method_56_15) (w := c0) (own_nc (own_c8 hc0)) (by decide) (by decide) (⟨rfl, e3, rfl⟩)
theorem ef_c_chk_1_2p (m : MethodId) (sf : Value) (hsf : sf.isRef = true) : entryFrame m #[(.int (1 : Int32)), (.int (2 : Int32)), sf] 3 = mkF m 0 #[.val (.int (1 : Int32)), .val (.int (2 : Int32)), .val sf] [] := by rcases ref_cases hsf with rfl | ⟨_, rfl⟩ <;> (first | (simp [entryFrame, mkF, argsToLocals, Value.category]; done) | rfl)
set_option maxRecDepth 65536 in
set_option maxHeartbeats 40000000 in
theorem c_chk_1_2p (l : Launch) (Z : State) (a0 : Array Value) (hw : ∀ d ∈ tables_1, d.before a0 Z = true) (sf : Value) (hsf : sf.isRef = true) (h0 : Heap)  :
    Ctr l Z (⟨"jdk/internal/util/Preconditions", "checkIndex", "(IILjava/util/function/BiFunction;)I"⟩ : MethodName) jdk_41_method_11_code 3 (some .int) [] ({ frames := 0, cells := 0, slots := 0, locals := 0 } : Room) #[(.int (1 : Int32)), (.int (2 : Int32)), sf] h0 (Just h0 (.int 1)) := by
  refine Ctr.of (plainFor_of_name pn_6) ?_
  intro p e s m below meth c s₁ hx hby hml hret hown hnm hZ hlk X0 e0
  refine Goes.cast (ef_c_chk_1_2p m sf hsf) ?_
  refine gLoadIN X0 hx (hb hby d_jdk_41_method_11_0) (pc' := 1) rfl rfl ?_
  refine gIfLt X0 hx (hb hby d_jdk_41_method_11_1) (pc' := 9) (by decide) (by decide) (pn := 4) rfl (fun (c1 : (1 : Int) < (0 : Int)) => ?_) (fun (c1 : (0 : Int) ≤ (1 : Int)) => ?_)
  · exact absurd c1 (by decide)
  · refine gLoadIN X0 hx (hb hby d_jdk_41_method_11_4) (pc' := 5) rfl rfl ?_
    refine gLoadIN X0 hx (hb hby d_jdk_41_method_11_5) (pc' := 6) rfl rfl ?_
    refine gIcmpLt X0 hx (hb hby d_jdk_41_method_11_6) (pc' := 16) (by decide) (by decide) (pn := 9) rfl (fun (c6 : (1 : Int) < (2 : Int)) => ?_) (fun (c6 : (2 : Int) ≤ (1 : Int)) => ?_)
    · refine gLoadIN X0 hx (hb hby d_jdk_41_method_11_16) (pc' := 17) rfl rfl ?_
      exact gRetI X0 hx hlk hret (hb hby d_jdk_41_method_11_17) (by decide) (by decide) (⟨rfl, e0, rfl⟩)
    · exact absurd c6 (by decide)
theorem ef_c_chk_1_2 (m : MethodId)  : entryFrame m #[(.int (1 : Int32)), (.int (2 : Int32))] 2 = mkF m 0 #[.val (.int (1 : Int32)), .val (.int (2 : Int32))] [] := by first | (simp [entryFrame, mkF, argsToLocals, Value.category]; done) | rfl
set_option maxRecDepth 65536 in
set_option maxHeartbeats 40000000 in
theorem c_chk_1_2 (l : Launch) (Z : State) (a0 : Array Value) (hw : ∀ d ∈ tables_1, d.before a0 Z = true)  (h0 : Heap) (hSio : Sio Z h0) :
    Ctr l Z (⟨"java/lang/String", "checkIndex", "(II)V"⟩ : MethodName) jdk_42_method_155_code 2 none [] ({ frames := 1, cells := 0, slots := 0, locals := 14 } : Room) #[(.int (1 : Int32)), (.int (2 : Int32))] h0 (fun v h L => v = none ∧ h = h0 ∧ L = []) := by
  refine Ctr.of (plainFor_of_name pn_3) ?_
  intro p e s m below meth c s₁ hx hby hml hret hown hnm hZ hlk X0 e0
  refine Goes.cast (ef_c_chk_1_2 m ) ?_
  obtain ⟨sf, SF, hsf⟩ := hSio
  refine gLoadIN X0 hx (hb hby d_jdk_42_method_155_0) (pc' := 1) rfl rfl ?_
  refine gLoadIN X0 hx (hb hby d_jdk_42_method_155_1) (pc' := 2) rfl rfl ?_
  refine gGetS X0 hx hZ hown (hw _ (List.mem_of_getElem? (i := 69) rfl)) Via.refl e0 SF (hb hby d_jdk_42_method_155_2) (pc' := 5) rfl (fun T1 X1 e1 => ?_)
  refine gCallSJ X1 hx hZ (y := (⟨"jdk/internal/util/Preconditions", "checkIndex", "(IILjava/util/function/BiFunction;)I"⟩ : MethodName)) hown e1 (by rw [hml]; rfl) (hw _ (List.mem_of_getElem? (i := 71) rfl)) (hw _ (List.mem_of_getElem? (i := 72) rfl)) (hw _ (List.mem_of_getElem? (i := 70) rfl)) (hw _ (List.mem_of_getElem? (i := 73) rfl)) (by decide) (argsL := [(.int (1 : Int32)), (.int (2 : Int32)), sf]) (st := []) (c_chk_1_2p l Z a0 hw sf hsf h0) (lenOf pd_7 rfl) (hb hby d_jdk_42_method_155_5) (pc' := 8) rfl rfl rfl rfl (by decide) (W := 0) (Nat.le_of_eq rfl) (by decide) (by decide) (by decide) ?_
  intro T2 X2 e2
  refine gPop X2 hx (hb hby d_jdk_42_method_155_8) (pc' := 9) rfl rfl ?_
  exact gRetV X2 hx hlk hret (hb hby d_jdk_42_method_155_9) (by decide) (by decide) (⟨rfl, e2, rfl⟩)
theorem ef_c_charAt_1_2l (m : MethodId) (t : Addr) : entryFrame m #[(.ref t), (.int (1 : Int32))] 2 = mkF m 0 #[.val (.ref t), .val (.int (1 : Int32))] [] := by first | (simp [entryFrame, mkF, argsToLocals, Value.category]; done) | rfl
set_option maxRecDepth 65536 in
set_option maxHeartbeats 40000000 in
theorem c_charAt_1_2l (l : Launch) (Z : State) (a0 : Array Value) (hw : ∀ d ∈ tables_1, d.before a0 Z = true) (t : Addr) (ck : ClassId) (c0 c1 : Int32) (h0 : Heap) (hSio : Sio Z h0) (A : Arv Z h0 t ck .byte 2 [by8 c0, by8 c1] (.int 0)) (hc0 : 0 ≤ c0.toInt ∧ c0.toInt ≤ 255) (hc1 : 0 ≤ c1.toInt ∧ c1.toInt ≤ 255) :
    Ctr l Z (⟨"java/lang/StringLatin1", "charAt", "([BI)C"⟩ : MethodName) jdk_43_method_2_code 2 (some .char) [] ({ frames := 2, cells := 0, slots := 0, locals := 28 } : Room) #[(.ref t), (.int (1 : Int32))] h0 (Just h0 (.int c1)) := by
  refine Ctr.of (plainFor_of_name pn_4) ?_
  intro p e s m below meth c s₁ hx hby hml hret hown hnm hZ hlk X0 e0
  refine Goes.cast (ef_c_charAt_1_2l m t) ?_
  refine gLoadIN X0 hx (hb hby d_jdk_43_method_2_0) (pc' := 1) rfl rfl ?_
  refine gLoadAN X0 hx (hb hby d_jdk_43_method_2_1) (pc' := 2) rfl rfl rfl ?_
  refine gArrLen X0 hx hZ e0 A (hb hby d_jdk_43_method_2_2) (pc' := 3) rfl ?_
  refine gCallS X0 hx hZ (y := (⟨"java/lang/String", "checkIndex", "(II)V"⟩ : MethodName)) hown e0 (by rw [hml]; rfl) (hw _ (List.mem_of_getElem? (i := 66) rfl)) (hw _ (List.mem_of_getElem? (i := 67) rfl)) (hw _ (List.mem_of_getElem? (i := 4) rfl)) (hw _ (List.mem_of_getElem? (i := 68) rfl)) (by decide) (argsL := [(.int (1 : Int32)), (.int (2 : Int32))]) (st := []) (c_chk_1_2 l Z a0 hw h0 hSio) (lenOf pd_6 rfl) (hb hby d_jdk_43_method_2_3) (pc' := 6) rfl rfl (by decide) (W := 0) (Nat.le_of_eq rfl) (by decide) (by decide) (by decide) ?_
  intro T1 v1 L1 X1 hQ1
  obtain ⟨rfl, eq1, rfl⟩ := hQ1
  rw [List.append_nil] at X1
  refine gLoadAN X1 hx (hb hby d_jdk_43_method_2_6) (pc' := 7) rfl rfl rfl ?_
  refine gLoadIN X1 hx (hb hby d_jdk_43_method_2_7) (pc' := 8) rfl rfl ?_
  refine gBaload X1 hx hZ eq1 A (j := (1 : Int32)) (v := (.int (c1.toInt8.toInt32))) (by decide) (by decide) rfl (hb hby d_jdk_43_method_2_8) (pc' := 9) rfl ?_
  refine gSipush X1 hx (v := (255 : Int32)) (hb hby d_jdk_43_method_2_9) (pc' := 12) rfl rfl ?_
  refine gIand X1 hx (hb hby d_jdk_43_method_2_12) (pc' := 13) rfl ?_
  refine gI2c X1 hx (hb hby d_jdk_43_method_2_13) (pc' := 14) rfl ?_
  rw [own_ch hc1]
  exact gRetN X1 hx hlk hret (by simp) (hb hby d_jdk_43_method_2_14) (w := c1) (own_nc (own_c8 hc1)) (by decide) (by decide) (⟨rfl, eq1, rfl⟩)
theorem ef_c_charAt_1_2 (m : MethodId) (a : Addr) : entryFrame m #[(.ref a), (.int (1 : Int32))] 2 = mkF m 0 #[.val (.ref a), .val (.int (1 : Int32))] [] := by first | (simp [entryFrame, mkF, argsToLocals, Value.category]; done) | rfl
set_option maxRecDepth 65536 in
set_option maxHeartbeats 40000000 in
theorem c_charAt_1_2 (l : Launch) (Z : State) (a0 : Array Value) (hw : ∀ d ∈ tables_1, d.before a0 Z = true) (a t : Addr) (ck : ClassId) (c0 c1 : Int32) (h0 : Heap) (hSio : Sio Z h0) (hCpt : Cpt Z h0) (E : Exa Z h0 a "java/lang/String") (C : Fld Z h0 a "java/lang/String" "coder" "B" (.int 0)) (V : Fld Z h0 a "java/lang/String" "value" "[B" (.ref t)) (A : Arv Z h0 t ck .byte 2 [by8 c0, by8 c1] (.int 0)) (hc0 : 0 ≤ c0.toInt ∧ c0.toInt ≤ 255) (hc1 : 0 ≤ c1.toInt ∧ c1.toInt ≤ 255) :
    Ctr l Z (⟨"java/lang/String", "charAt", "(I)C"⟩ : MethodName) jdk_42_method_56_code 2 (some .char) [] ({ frames := 3, cells := 0, slots := 0, locals := 41 } : Room) #[(.ref a), (.int (1 : Int32))] h0 (Just h0 (.int c1)) := by
  refine Ctr.of (plainFor_of_name pn_3) ?_
  intro p e s m below meth c s₁ hx hby hml hret hown hnm hZ hlk X0 e0
  refine Goes.cast (ef_c_charAt_1_2 m a) ?_
  refine gLoadAN X0 hx (hb hby d_jdk_42_method_56_0) (pc' := 1) rfl rfl rfl ?_
  refine gCallVJ X0 hx hZ (y := (⟨"java/lang/String", "isLatin1", "()Z"⟩ : MethodName)) hown e0 (by rw [hml]; rfl) E (hw _ (List.mem_of_getElem? (i := 57) rfl)) (hw _ (List.mem_of_getElem? (i := 58) rfl)) (hw _ (List.mem_of_getElem? (i := 60) rfl)) (hw _ (List.mem_of_getElem? (i := 59) rfl)) (hw _ (List.mem_of_getElem? (i := 4) rfl)) (hw _ (List.mem_of_getElem? (i := 61) rfl)) (by decide) (argsL := []) (st := []) (c_isLatin1 l Z a0 hw a h0 hCpt C) (lenOf pd_3 rfl) (hb hby d_jdk_42_method_56_1) (pc' := 4) rfl rfl rfl rfl (by decide) (W := 0) (Nat.le_of_eq rfl) (by decide) (by decide) (by decide) ?_
  intro T1 X1 e1
  refine gIfEqT X1 hx (hb hby d_jdk_42_method_56_4) (pc' := 16) (by decide) (by decide) (pn := 7) rfl (fun (c4 : (1 : Int) = (0 : Int)) => ?_) (fun (c4 : ¬ (1 : Int) = (0 : Int)) => ?_)
  · exact absurd c4 (by decide)
  · refine gLoadAN X1 hx (hb hby d_jdk_42_method_56_7) (pc' := 8) rfl rfl rfl ?_
    refine gGetF X1 hx hZ hown (hw _ (List.mem_of_getElem? (i := 21) rfl)) Via.refl e1 V (hb hby d_jdk_42_method_56_8) (pc' := 11) rfl (fun T2 X2 e2 => ?_)
    refine gLoadIN X2 hx (hb hby d_jdk_42_method_56_11) (pc' := 12) rfl rfl ?_
    refine gCallSJ X2 hx hZ (y := (⟨"java/lang/StringLatin1", "charAt", "([BI)C"⟩ : MethodName)) hown e2 (by rw [hml]; rfl) (hw _ (List.mem_of_getElem? (i := 62) rfl)) (hw _ (List.mem_of_getElem? (i := 63) rfl)) (hw _ (List.mem_of_getElem? (i := 64) rfl)) (hw _ (List.mem_of_getElem? (i := 65) rfl)) (by decide) (argsL := [(.ref t), (.int (1 : Int32))]) (st := []) (c_charAt_1_2l l Z a0 hw t ck c0 c1 h0 hSio A hc0 hc1) (lenOf pd_10 rfl) (hb hby d_jdk_42_method_56_12) (pc' := 15) rfl rfl rfl rfl (by decide) (W := 0) (Nat.le_of_eq rfl) (by decide) (by decide) (by decide) ?_
    intro T3 X3 e3
    exact gRetN X3 hx hlk hret (by simp) (hb hby d_jdk_42_method_56_15) (w := c1) (own_nc (own_c8 hc1)) (by decide) (by decide) (⟨rfl, e3, rfl⟩)
theorem ef_c_fv_2 (m : MethodId) (a : Addr) : entryFrame m #[(.ref a)] 4 = mkF m 0 #[.val (.ref a), .unset, .unset, .unset] [] := by first | (simp [entryFrame, mkF, argsToLocals, Value.category]; done) | rfl
set_option maxRecDepth 65536 in
set_option maxHeartbeats 40000000 in
theorem c_fv_2 (l : Launch) (Z : State) (a0 : Array Value) (hw : ∀ d ∈ tables_1, d.before a0 Z = true) (a t : Addr) (ck : ClassId) (c0 c1 : Int32) (h0 : Heap) (hSio : Sio Z h0) (hCpt : Cpt Z h0) (E : Exa Z h0 a "java/lang/String") (C : Fld Z h0 a "java/lang/String" "coder" "B" (.int 0)) (V : Fld Z h0 a "java/lang/String" "value" "[B" (.ref t)) (A : Arv Z h0 t ck .byte 2 [by8 c0, by8 c1] (.int 0)) (hc0 : 0 ≤ c0.toInt ∧ c0.toInt ≤ 255) (hc1 : 0 ≤ c1.toInt ∧ c1.toInt ≤ 255) :
    Ctr l Z (⟨"com/example/anteroom/anteroom/HttpSyntax", "isFieldValue", "(Ljava/lang/String;)Z"⟩ : MethodName) prog_7_method_12_code 4 (some .boolean) [] ({ frames := 4, cells := 0, slots := 0, locals := 56 } : Room) #[(.ref a)] h0 (Just h0 (.int (b2i (decide ((c0.toInt = 9 ∨ 32 ≤ c0.toInt ∧ c0.toInt ≠ 127) ∧ (c1.toInt = 9 ∨ 32 ≤ c1.toInt ∧ c1.toInt ≠ 127)))))) := by
  refine Ctr.of (plainFor_of_name pn_0) ?_
  intro p e s m below meth c s₁ hx hby hml hret hown hnm hZ hlk X0 e0
  refine Goes.cast (ef_c_fv_2 m a) ?_
  refine gIconst X0 hx (v := (1 : Int32)) (hb hby d_prog_7_method_12_0) (pc' := 1) rfl rfl ?_
  refine gStoreIN X0 hx (hb hby d_prog_7_method_12_1) (l' := #[.val (.ref a), .val (.int (1 : Int32)), .unset, .unset]) (pc' := 2) rfl rfl ?_
  refine gIconst X0 hx (v := (0 : Int32)) (hb hby d_prog_7_method_12_2) (pc' := 3) rfl rfl ?_
  refine gStoreIN X0 hx (hb hby d_prog_7_method_12_3) (l' := #[.val (.ref a), .val (.int (1 : Int32)), .val (.int (0 : Int32)), .unset]) (pc' := 4) rfl rfl ?_
  refine gLoadIN X0 hx (hb hby d_prog_7_method_12_4) (pc' := 5) rfl rfl ?_
  refine gLoadAN X0 hx (hb hby d_prog_7_method_12_5) (pc' := 6) rfl rfl rfl ?_
  refine gCallVJ X0 hx hZ (y := (⟨"java/lang/String", "length", "()I"⟩ : MethodName)) hown e0 (by rw [hml]; rfl) E (hw _ (List.mem_of_getElem? (i := 27) rfl)) (hw _ (List.mem_of_getElem? (i := 28) rfl)) (hw _ (List.mem_of_getElem? (i := 30) rfl)) (hw _ (List.mem_of_getElem? (i := 29) rfl)) (hw _ (List.mem_of_getElem? (i := 4) rfl)) (hw _ (List.mem_of_getElem? (i := 31) rfl)) (by decide) (argsL := []) (st := [(.int (0 : Int32))]) (c_length_2 l Z a0 hw a t ck c0 c1 h0 hCpt E C V A hc0 hc1) (lenOf pd_1 rfl) (hb hby d_prog_7_method_12_6) (pc' := 9) rfl rfl rfl rfl (by decide) (W := 1) (Nat.le_of_eq rfl) (by decide) (by decide) (by decide) ?_
  intro T1 X1 e1
  refine gIcmpGe X1 hx (hb hby d_prog_7_method_12_9) (pc' := 52) (by decide) (by decide) (pn := 12) rfl (fun (c9 : (2 : Int) ≤ (0 : Int)) => ?_) (fun (c9 : (0 : Int) < (2 : Int)) => ?_)
  · exact absurd c9 (by decide)
  · refine gLoadAN X1 hx (hb hby d_prog_7_method_12_12) (pc' := 13) rfl rfl rfl ?_
    refine gLoadIN X1 hx (hb hby d_prog_7_method_12_13) (pc' := 14) rfl rfl ?_
    refine gCallVJ X1 hx hZ (y := (⟨"java/lang/String", "charAt", "(I)C"⟩ : MethodName)) hown e1 (by rw [hml]; rfl) E (hw _ (List.mem_of_getElem? (i := 52) rfl)) (hw _ (List.mem_of_getElem? (i := 53) rfl)) (hw _ (List.mem_of_getElem? (i := 55) rfl)) (hw _ (List.mem_of_getElem? (i := 54) rfl)) (hw _ (List.mem_of_getElem? (i := 4) rfl)) (hw _ (List.mem_of_getElem? (i := 56) rfl)) (by decide) (argsL := [(.int (0 : Int32))]) (st := []) (c_charAt_0_2 l Z a0 hw a t ck c0 c1 h0 hSio hCpt E C V A hc0 hc1) (lenOf pd_5 rfl) (hb hby d_prog_7_method_12_14) (pc' := 17) rfl rfl rfl rfl (by decide) (W := 0) (Nat.le_of_eq rfl) (by decide) (by decide) (by decide) ?_
    intro T2 X2 e2
    refine gStoreIN X2 hx (hb hby d_prog_7_method_12_17) (l' := #[.val (.ref a), .val (.int (1 : Int32)), .val (.int (0 : Int32)), .val (.int c0)]) (pc' := 18) rfl rfl ?_
    refine gLoadIN X2 hx (hb hby d_prog_7_method_12_18) (pc' := 19) rfl rfl ?_
    refine gIfEqT X2 hx (hb hby d_prog_7_method_12_19) (pc' := 44) (by decide) (by decide) (pn := 22) rfl (fun (c19 : (1 : Int) = (0 : Int)) => ?_) (fun (c19 : ¬ (1 : Int) = (0 : Int)) => ?_)
    · exact absurd c19 (by decide)
    · refine gLoadIN X2 hx (hb hby d_prog_7_method_12_22) (pc' := 23) rfl rfl ?_
      refine gBipush X2 hx (v := (32 : Int32)) (hb hby d_prog_7_method_12_23) (pc' := 25) rfl rfl ?_
      refine gIcmpGe X2 hx (hb hby d_prog_7_method_12_25) (pc' := 34) (by decide) (by decide) (pn := 28) rfl (fun (c25 : (32 : Int) ≤ c0.toInt) => ?_) (fun (c25 : c0.toInt < (32 : Int)) => ?_)
      · refine gLoadIN X2 hx (hb hby d_prog_7_method_12_34) (pc' := 35) rfl rfl ?_
        refine gBipush X2 hx (v := (127 : Int32)) (hb hby d_prog_7_method_12_35) (pc' := 37) rfl rfl ?_
        refine gIcmpEqT X2 hx (hb hby d_prog_7_method_12_37) (pc' := 44) (by decide) (by decide) (pn := 40) rfl (fun (c37 : c0.toInt = (127 : Int)) => ?_) (fun (c37 : ¬ c0.toInt = (127 : Int)) => ?_)
        · refine gIconst X2 hx (v := (0 : Int32)) (hb hby d_prog_7_method_12_44) (pc' := 45) rfl rfl ?_
          refine gStoreIN X2 hx (hb hby d_prog_7_method_12_45) (l' := #[.val (.ref a), .val (.int (0 : Int32)), .val (.int (0 : Int32)), .val (.int c0)]) (pc' := 46) rfl rfl ?_
          refine gIinc X2 hx (v := (1 : Int32)) (hb hby d_prog_7_method_12_46) (l' := #[.val (.ref a), .val (.int (0 : Int32)), .val (.int (1 : Int32)), .val (.int c0)]) (pc' := 49) rfl rfl rfl rfl ?_
          refine gGoto X2 hx (hb hby d_prog_7_method_12_49) (pc' := 4) (by decide) (by decide) ?_
          refine gLoadIN X2 hx (hb hby d_prog_7_method_12_4) (pc' := 5) rfl rfl ?_
          refine gLoadAN X2 hx (hb hby d_prog_7_method_12_5) (pc' := 6) rfl rfl rfl ?_
          refine gCallVJ X2 hx hZ (y := (⟨"java/lang/String", "length", "()I"⟩ : MethodName)) hown e2 (by rw [hml]; rfl) E (hw _ (List.mem_of_getElem? (i := 27) rfl)) (hw _ (List.mem_of_getElem? (i := 28) rfl)) (hw _ (List.mem_of_getElem? (i := 30) rfl)) (hw _ (List.mem_of_getElem? (i := 29) rfl)) (hw _ (List.mem_of_getElem? (i := 4) rfl)) (hw _ (List.mem_of_getElem? (i := 31) rfl)) (by decide) (argsL := []) (st := [(.int (1 : Int32))]) (c_length_2 l Z a0 hw a t ck c0 c1 h0 hCpt E C V A hc0 hc1) (lenOf pd_1 rfl) (hb hby d_prog_7_method_12_6) (pc' := 9) rfl rfl rfl rfl (by decide) (W := 1) (Nat.le_of_eq rfl) (by decide) (by decide) (by decide) ?_
          intro T3 X3 e3
          refine gIcmpGe X3 hx (hb hby d_prog_7_method_12_9) (pc' := 52) (by decide) (by decide) (pn := 12) rfl (fun (c9' : (2 : Int) ≤ (1 : Int)) => ?_) (fun (c9' : (1 : Int) < (2 : Int)) => ?_)
          · exact absurd c9' (by decide)
          · refine gLoadAN X3 hx (hb hby d_prog_7_method_12_12) (pc' := 13) rfl rfl rfl ?_
            refine gLoadIN X3 hx (hb hby d_prog_7_method_12_13) (pc' := 14) rfl rfl ?_
            refine gCallVJ X3 hx hZ (y := (⟨"java/lang/String", "charAt", "(I)C"⟩ : MethodName)) hown e3 (by rw [hml]; rfl) E (hw _ (List.mem_of_getElem? (i := 52) rfl)) (hw _ (List.mem_of_getElem? (i := 53) rfl)) (hw _ (List.mem_of_getElem? (i := 55) rfl)) (hw _ (List.mem_of_getElem? (i := 54) rfl)) (hw _ (List.mem_of_getElem? (i := 4) rfl)) (hw _ (List.mem_of_getElem? (i := 56) rfl)) (by decide) (argsL := [(.int (1 : Int32))]) (st := []) (c_charAt_1_2 l Z a0 hw a t ck c0 c1 h0 hSio hCpt E C V A hc0 hc1) (lenOf pd_5 rfl) (hb hby d_prog_7_method_12_14) (pc' := 17) rfl rfl rfl rfl (by decide) (W := 0) (Nat.le_of_eq rfl) (by decide) (by decide) (by decide) ?_
            intro T4 X4 e4
            refine gStoreIN X4 hx (hb hby d_prog_7_method_12_17) (l' := #[.val (.ref a), .val (.int (0 : Int32)), .val (.int (1 : Int32)), .val (.int c1)]) (pc' := 18) rfl rfl ?_
            refine gLoadIN X4 hx (hb hby d_prog_7_method_12_18) (pc' := 19) rfl rfl ?_
            refine gIfEqT X4 hx (hb hby d_prog_7_method_12_19) (pc' := 44) (by decide) (by decide) (pn := 22) rfl (fun (c19' : (0 : Int) = (0 : Int)) => ?_) (fun (c19' : ¬ (0 : Int) = (0 : Int)) => ?_)
            · refine gIconst X4 hx (v := (0 : Int32)) (hb hby d_prog_7_method_12_44) (pc' := 45) rfl rfl ?_
              refine gStoreIN X4 hx (hb hby d_prog_7_method_12_45) (l' := #[.val (.ref a), .val (.int (0 : Int32)), .val (.int (1 : Int32)), .val (.int c1)]) (pc' := 46) rfl rfl ?_
              refine gIinc X4 hx (v := (1 : Int32)) (hb hby d_prog_7_method_12_46) (l' := #[.val (.ref a), .val (.int (0 : Int32)), .val (.int (2 : Int32)), .val (.int c1)]) (pc' := 49) rfl rfl rfl rfl ?_
              refine gGoto X4 hx (hb hby d_prog_7_method_12_49) (pc' := 4) (by decide) (by decide) ?_
              refine gLoadIN X4 hx (hb hby d_prog_7_method_12_4) (pc' := 5) rfl rfl ?_
              refine gLoadAN X4 hx (hb hby d_prog_7_method_12_5) (pc' := 6) rfl rfl rfl ?_
              refine gCallVJ X4 hx hZ (y := (⟨"java/lang/String", "length", "()I"⟩ : MethodName)) hown e4 (by rw [hml]; rfl) E (hw _ (List.mem_of_getElem? (i := 27) rfl)) (hw _ (List.mem_of_getElem? (i := 28) rfl)) (hw _ (List.mem_of_getElem? (i := 30) rfl)) (hw _ (List.mem_of_getElem? (i := 29) rfl)) (hw _ (List.mem_of_getElem? (i := 4) rfl)) (hw _ (List.mem_of_getElem? (i := 31) rfl)) (by decide) (argsL := []) (st := [(.int (2 : Int32))]) (c_length_2 l Z a0 hw a t ck c0 c1 h0 hCpt E C V A hc0 hc1) (lenOf pd_1 rfl) (hb hby d_prog_7_method_12_6) (pc' := 9) rfl rfl rfl rfl (by decide) (W := 1) (Nat.le_of_eq rfl) (by decide) (by decide) (by decide) ?_
              intro T5 X5 e5
              refine gIcmpGe X5 hx (hb hby d_prog_7_method_12_9) (pc' := 52) (by decide) (by decide) (pn := 12) rfl (fun (c9'' : (2 : Int) ≤ (2 : Int)) => ?_) (fun (c9'' : (2 : Int) < (2 : Int)) => ?_)
              · refine gLoadIN X5 hx (hb hby d_prog_7_method_12_52) (pc' := 53) rfl rfl ?_
                exact gRetN X5 hx hlk hret (by simp) (hb hby d_prog_7_method_12_53) (w := (0 : Int32)) rfl (by decide) (by decide) (just_f (by omega) e5)
              · exact absurd c9'' (by decide)
            · exact absurd c19' (by decide)
        · refine gIconst X2 hx (v := (1 : Int32)) (hb hby d_prog_7_method_12_40) (pc' := 41) rfl rfl ?_
          refine gGoto X2 hx (hb hby d_prog_7_method_12_41) (pc' := 45) (by decide) (by decide) ?_
          refine gStoreIN X2 hx (hb hby d_prog_7_method_12_45) (l' := #[.val (.ref a), .val (.int (1 : Int32)), .val (.int (0 : Int32)), .val (.int c0)]) (pc' := 46) rfl rfl ?_
          refine gIinc X2 hx (v := (1 : Int32)) (hb hby d_prog_7_method_12_46) (l' := #[.val (.ref a), .val (.int (1 : Int32)), .val (.int (1 : Int32)), .val (.int c0)]) (pc' := 49) rfl rfl rfl rfl ?_
          refine gGoto X2 hx (hb hby d_prog_7_method_12_49) (pc' := 4) (by decide) (by decide) ?_
          refine gLoadIN X2 hx (hb hby d_prog_7_method_12_4) (pc' := 5) rfl rfl ?_
          refine gLoadAN X2 hx (hb hby d_prog_7_method_12_5) (pc' := 6) rfl rfl rfl ?_
          refine gCallVJ X2 hx hZ (y := (⟨"java/lang/String", "length", "()I"⟩ : MethodName)) hown e2 (by rw [hml]; rfl) E (hw _ (List.mem_of_getElem? (i := 27) rfl)) (hw _ (List.mem_of_getElem? (i := 28) rfl)) (hw _ (List.mem_of_getElem? (i := 30) rfl)) (hw _ (List.mem_of_getElem? (i := 29) rfl)) (hw _ (List.mem_of_getElem? (i := 4) rfl)) (hw _ (List.mem_of_getElem? (i := 31) rfl)) (by decide) (argsL := []) (st := [(.int (1 : Int32))]) (c_length_2 l Z a0 hw a t ck c0 c1 h0 hCpt E C V A hc0 hc1) (lenOf pd_1 rfl) (hb hby d_prog_7_method_12_6) (pc' := 9) rfl rfl rfl rfl (by decide) (W := 1) (Nat.le_of_eq rfl) (by decide) (by decide) (by decide) ?_
          intro T6 X6 e6
          refine gIcmpGe X6 hx (hb hby d_prog_7_method_12_9) (pc' := 52) (by decide) (by decide) (pn := 12) rfl (fun (c9' : (2 : Int) ≤ (1 : Int)) => ?_) (fun (c9' : (1 : Int) < (2 : Int)) => ?_)
          · exact absurd c9' (by decide)
          · refine gLoadAN X6 hx (hb hby d_prog_7_method_12_12) (pc' := 13) rfl rfl rfl ?_
            refine gLoadIN X6 hx (hb hby d_prog_7_method_12_13) (pc' := 14) rfl rfl ?_
            refine gCallVJ X6 hx hZ (y := (⟨"java/lang/String", "charAt", "(I)C"⟩ : MethodName)) hown e6 (by rw [hml]; rfl) E (hw _ (List.mem_of_getElem? (i := 52) rfl)) (hw _ (List.mem_of_getElem? (i := 53) rfl)) (hw _ (List.mem_of_getElem? (i := 55) rfl)) (hw _ (List.mem_of_getElem? (i := 54) rfl)) (hw _ (List.mem_of_getElem? (i := 4) rfl)) (hw _ (List.mem_of_getElem? (i := 56) rfl)) (by decide) (argsL := [(.int (1 : Int32))]) (st := []) (c_charAt_1_2 l Z a0 hw a t ck c0 c1 h0 hSio hCpt E C V A hc0 hc1) (lenOf pd_5 rfl) (hb hby d_prog_7_method_12_14) (pc' := 17) rfl rfl rfl rfl (by decide) (W := 0) (Nat.le_of_eq rfl) (by decide) (by decide) (by decide) ?_
            intro T7 X7 e7
            refine gStoreIN X7 hx (hb hby d_prog_7_method_12_17) (l' := #[.val (.ref a), .val (.int (1 : Int32)), .val (.int (1 : Int32)), .val (.int c1)]) (pc' := 18) rfl rfl ?_
            refine gLoadIN X7 hx (hb hby d_prog_7_method_12_18) (pc' := 19) rfl rfl ?_
            refine gIfEqT X7 hx (hb hby d_prog_7_method_12_19) (pc' := 44) (by decide) (by decide) (pn := 22) rfl (fun (c19' : (1 : Int) = (0 : Int)) => ?_) (fun (c19' : ¬ (1 : Int) = (0 : Int)) => ?_)
            · exact absurd c19' (by decide)
            · refine gLoadIN X7 hx (hb hby d_prog_7_method_12_22) (pc' := 23) rfl rfl ?_
              refine gBipush X7 hx (v := (32 : Int32)) (hb hby d_prog_7_method_12_23) (pc' := 25) rfl rfl ?_
              refine gIcmpGe X7 hx (hb hby d_prog_7_method_12_25) (pc' := 34) (by decide) (by decide) (pn := 28) rfl (fun (c25' : (32 : Int) ≤ c1.toInt) => ?_) (fun (c25' : c1.toInt < (32 : Int)) => ?_)
              · refine gLoadIN X7 hx (hb hby d_prog_7_method_12_34) (pc' := 35) rfl rfl ?_
                refine gBipush X7 hx (v := (127 : Int32)) (hb hby d_prog_7_method_12_35) (pc' := 37) rfl rfl ?_
                refine gIcmpEqT X7 hx (hb hby d_prog_7_method_12_37) (pc' := 44) (by decide) (by decide) (pn := 40) rfl (fun (c37' : c1.toInt = (127 : Int)) => ?_) (fun (c37' : ¬ c1.toInt = (127 : Int)) => ?_)
                · refine gIconst X7 hx (v := (0 : Int32)) (hb hby d_prog_7_method_12_44) (pc' := 45) rfl rfl ?_
                  refine gStoreIN X7 hx (hb hby d_prog_7_method_12_45) (l' := #[.val (.ref a), .val (.int (0 : Int32)), .val (.int (1 : Int32)), .val (.int c1)]) (pc' := 46) rfl rfl ?_
                  refine gIinc X7 hx (v := (1 : Int32)) (hb hby d_prog_7_method_12_46) (l' := #[.val (.ref a), .val (.int (0 : Int32)), .val (.int (2 : Int32)), .val (.int c1)]) (pc' := 49) rfl rfl rfl rfl ?_
                  refine gGoto X7 hx (hb hby d_prog_7_method_12_49) (pc' := 4) (by decide) (by decide) ?_
                  refine gLoadIN X7 hx (hb hby d_prog_7_method_12_4) (pc' := 5) rfl rfl ?_
                  refine gLoadAN X7 hx (hb hby d_prog_7_method_12_5) (pc' := 6) rfl rfl rfl ?_
                  refine gCallVJ X7 hx hZ (y := (⟨"java/lang/String", "length", "()I"⟩ : MethodName)) hown e7 (by rw [hml]; rfl) E (hw _ (List.mem_of_getElem? (i := 27) rfl)) (hw _ (List.mem_of_getElem? (i := 28) rfl)) (hw _ (List.mem_of_getElem? (i := 30) rfl)) (hw _ (List.mem_of_getElem? (i := 29) rfl)) (hw _ (List.mem_of_getElem? (i := 4) rfl)) (hw _ (List.mem_of_getElem? (i := 31) rfl)) (by decide) (argsL := []) (st := [(.int (2 : Int32))]) (c_length_2 l Z a0 hw a t ck c0 c1 h0 hCpt E C V A hc0 hc1) (lenOf pd_1 rfl) (hb hby d_prog_7_method_12_6) (pc' := 9) rfl rfl rfl rfl (by decide) (W := 1) (Nat.le_of_eq rfl) (by decide) (by decide) (by decide) ?_
                  intro T8 X8 e8
                  refine gIcmpGe X8 hx (hb hby d_prog_7_method_12_9) (pc' := 52) (by decide) (by decide) (pn := 12) rfl (fun (c9'' : (2 : Int) ≤ (2 : Int)) => ?_) (fun (c9'' : (2 : Int) < (2 : Int)) => ?_)
                  · refine gLoadIN X8 hx (hb hby d_prog_7_method_12_52) (pc' := 53) rfl rfl ?_
                    exact gRetN X8 hx hlk hret (by simp) (hb hby d_prog_7_method_12_53) (w := (0 : Int32)) rfl (by decide) (by decide) (just_f (by omega) e8)
                  · exact absurd c9'' (by decide)
                · refine gIconst X7 hx (v := (1 : Int32)) (hb hby d_prog_7_method_12_40) (pc' := 41) rfl rfl ?_
                  refine gGoto X7 hx (hb hby d_prog_7_method_12_41) (pc' := 45) (by decide) (by decide) ?_
                  refine gStoreIN X7 hx (hb hby d_prog_7_method_12_45) (l' := #[.val (.ref a), .val (.int (1 : Int32)), .val (.int (1 : Int32)), .val (.int c1)]) (pc' := 46) rfl rfl ?_
                  refine gIinc X7 hx (v := (1 : Int32)) (hb hby d_prog_7_method_12_46) (l' := #[.val (.ref a), .val (.int (1 : Int32)), .val (.int (2 : Int32)), .val (.int c1)]) (pc' := 49) rfl rfl rfl rfl ?_
                  refine gGoto X7 hx (hb hby d_prog_7_method_12_49) (pc' := 4) (by decide) (by decide) ?_
                  refine gLoadIN X7 hx (hb hby d_prog_7_method_12_4) (pc' := 5) rfl rfl ?_
                  refine gLoadAN X7 hx (hb hby d_prog_7_method_12_5) (pc' := 6) rfl rfl rfl ?_
                  refine gCallVJ X7 hx hZ (y := (⟨"java/lang/String", "length", "()I"⟩ : MethodName)) hown e7 (by rw [hml]; rfl) E (hw _ (List.mem_of_getElem? (i := 27) rfl)) (hw _ (List.mem_of_getElem? (i := 28) rfl)) (hw _ (List.mem_of_getElem? (i := 30) rfl)) (hw _ (List.mem_of_getElem? (i := 29) rfl)) (hw _ (List.mem_of_getElem? (i := 4) rfl)) (hw _ (List.mem_of_getElem? (i := 31) rfl)) (by decide) (argsL := []) (st := [(.int (2 : Int32))]) (c_length_2 l Z a0 hw a t ck c0 c1 h0 hCpt E C V A hc0 hc1) (lenOf pd_1 rfl) (hb hby d_prog_7_method_12_6) (pc' := 9) rfl rfl rfl rfl (by decide) (W := 1) (Nat.le_of_eq rfl) (by decide) (by decide) (by decide) ?_
                  intro T9 X9 e9
                  refine gIcmpGe X9 hx (hb hby d_prog_7_method_12_9) (pc' := 52) (by decide) (by decide) (pn := 12) rfl (fun (c9'' : (2 : Int) ≤ (2 : Int)) => ?_) (fun (c9'' : (2 : Int) < (2 : Int)) => ?_)
                  · refine gLoadIN X9 hx (hb hby d_prog_7_method_12_52) (pc' := 53) rfl rfl ?_
                    exact gRetN X9 hx hlk hret (by simp) (hb hby d_prog_7_method_12_53) (w := (1 : Int32)) rfl (by decide) (by decide) (just_t (by omega) e9)
                  · exact absurd c9'' (by decide)
              · refine gLoadIN X7 hx (hb hby d_prog_7_method_12_28) (pc' := 29) rfl rfl ?_
                refine gBipush X7 hx (v := (9 : Int32)) (hb hby d_prog_7_method_12_29) (pc' := 31) rfl rfl ?_
                refine gIcmpNeT X7 hx (hb hby d_prog_7_method_12_31) (pc' := 44) (by decide) (by decide) (pn := 34) rfl (fun (c31 : ¬ c1.toInt = (9 : Int)) => ?_) (fun (c31 : c1.toInt = (9 : Int)) => ?_)
                · refine gIconst X7 hx (v := (0 : Int32)) (hb hby d_prog_7_method_12_44) (pc' := 45) rfl rfl ?_
                  refine gStoreIN X7 hx (hb hby d_prog_7_method_12_45) (l' := #[.val (.ref a), .val (.int (0 : Int32)), .val (.int (1 : Int32)), .val (.int c1)]) (pc' := 46) rfl rfl ?_
                  refine gIinc X7 hx (v := (1 : Int32)) (hb hby d_prog_7_method_12_46) (l' := #[.val (.ref a), .val (.int (0 : Int32)), .val (.int (2 : Int32)), .val (.int c1)]) (pc' := 49) rfl rfl rfl rfl ?_
                  refine gGoto X7 hx (hb hby d_prog_7_method_12_49) (pc' := 4) (by decide) (by decide) ?_
                  refine gLoadIN X7 hx (hb hby d_prog_7_method_12_4) (pc' := 5) rfl rfl ?_
                  refine gLoadAN X7 hx (hb hby d_prog_7_method_12_5) (pc' := 6) rfl rfl rfl ?_
                  refine gCallVJ X7 hx hZ (y := (⟨"java/lang/String", "length", "()I"⟩ : MethodName)) hown e7 (by rw [hml]; rfl) E (hw _ (List.mem_of_getElem? (i := 27) rfl)) (hw _ (List.mem_of_getElem? (i := 28) rfl)) (hw _ (List.mem_of_getElem? (i := 30) rfl)) (hw _ (List.mem_of_getElem? (i := 29) rfl)) (hw _ (List.mem_of_getElem? (i := 4) rfl)) (hw _ (List.mem_of_getElem? (i := 31) rfl)) (by decide) (argsL := []) (st := [(.int (2 : Int32))]) (c_length_2 l Z a0 hw a t ck c0 c1 h0 hCpt E C V A hc0 hc1) (lenOf pd_1 rfl) (hb hby d_prog_7_method_12_6) (pc' := 9) rfl rfl rfl rfl (by decide) (W := 1) (Nat.le_of_eq rfl) (by decide) (by decide) (by decide) ?_
                  intro T10 X10 e10
                  refine gIcmpGe X10 hx (hb hby d_prog_7_method_12_9) (pc' := 52) (by decide) (by decide) (pn := 12) rfl (fun (c9'' : (2 : Int) ≤ (2 : Int)) => ?_) (fun (c9'' : (2 : Int) < (2 : Int)) => ?_)
                  · refine gLoadIN X10 hx (hb hby d_prog_7_method_12_52) (pc' := 53) rfl rfl ?_
                    exact gRetN X10 hx hlk hret (by simp) (hb hby d_prog_7_method_12_53) (w := (0 : Int32)) rfl (by decide) (by decide) (just_f (by omega) e10)
                  · exact absurd c9'' (by decide)
                · refine gLoadIN X7 hx (hb hby d_prog_7_method_12_34) (pc' := 35) rfl rfl ?_
                  refine gBipush X7 hx (v := (127 : Int32)) (hb hby d_prog_7_method_12_35) (pc' := 37) rfl rfl ?_
                  refine gIcmpEqT X7 hx (hb hby d_prog_7_method_12_37) (pc' := 44) (by decide) (by decide) (pn := 40) rfl (fun (c37' : c1.toInt = (127 : Int)) => ?_) (fun (c37' : ¬ c1.toInt = (127 : Int)) => ?_)
                  · exact absurd c37' (by omega)
                  · refine gIconst X7 hx (v := (1 : Int32)) (hb hby d_prog_7_method_12_40) (pc' := 41) rfl rfl ?_
                    refine gGoto X7 hx (hb hby d_prog_7_method_12_41) (pc' := 45) (by decide) (by decide) ?_
                    refine gStoreIN X7 hx (hb hby d_prog_7_method_12_45) (l' := #[.val (.ref a), .val (.int (1 : Int32)), .val (.int (1 : Int32)), .val (.int c1)]) (pc' := 46) rfl rfl ?_
                    refine gIinc X7 hx (v := (1 : Int32)) (hb hby d_prog_7_method_12_46) (l' := #[.val (.ref a), .val (.int (1 : Int32)), .val (.int (2 : Int32)), .val (.int c1)]) (pc' := 49) rfl rfl rfl rfl ?_
                    refine gGoto X7 hx (hb hby d_prog_7_method_12_49) (pc' := 4) (by decide) (by decide) ?_
                    refine gLoadIN X7 hx (hb hby d_prog_7_method_12_4) (pc' := 5) rfl rfl ?_
                    refine gLoadAN X7 hx (hb hby d_prog_7_method_12_5) (pc' := 6) rfl rfl rfl ?_
                    refine gCallVJ X7 hx hZ (y := (⟨"java/lang/String", "length", "()I"⟩ : MethodName)) hown e7 (by rw [hml]; rfl) E (hw _ (List.mem_of_getElem? (i := 27) rfl)) (hw _ (List.mem_of_getElem? (i := 28) rfl)) (hw _ (List.mem_of_getElem? (i := 30) rfl)) (hw _ (List.mem_of_getElem? (i := 29) rfl)) (hw _ (List.mem_of_getElem? (i := 4) rfl)) (hw _ (List.mem_of_getElem? (i := 31) rfl)) (by decide) (argsL := []) (st := [(.int (2 : Int32))]) (c_length_2 l Z a0 hw a t ck c0 c1 h0 hCpt E C V A hc0 hc1) (lenOf pd_1 rfl) (hb hby d_prog_7_method_12_6) (pc' := 9) rfl rfl rfl rfl (by decide) (W := 1) (Nat.le_of_eq rfl) (by decide) (by decide) (by decide) ?_
                    intro T11 X11 e11
                    refine gIcmpGe X11 hx (hb hby d_prog_7_method_12_9) (pc' := 52) (by decide) (by decide) (pn := 12) rfl (fun (c9'' : (2 : Int) ≤ (2 : Int)) => ?_) (fun (c9'' : (2 : Int) < (2 : Int)) => ?_)
                    · refine gLoadIN X11 hx (hb hby d_prog_7_method_12_52) (pc' := 53) rfl rfl ?_
                      exact gRetN X11 hx hlk hret (by simp) (hb hby d_prog_7_method_12_53) (w := (1 : Int32)) rfl (by decide) (by decide) (just_t (by omega) e11)
                    · exact absurd c9'' (by decide)
      · refine gLoadIN X2 hx (hb hby d_prog_7_method_12_28) (pc' := 29) rfl rfl ?_
        refine gBipush X2 hx (v := (9 : Int32)) (hb hby d_prog_7_method_12_29) (pc' := 31) rfl rfl ?_
        refine gIcmpNeT X2 hx (hb hby d_prog_7_method_12_31) (pc' := 44) (by decide) (by decide) (pn := 34) rfl (fun (c31 : ¬ c0.toInt = (9 : Int)) => ?_) (fun (c31 : c0.toInt = (9 : Int)) => ?_)
        · refine gIconst X2 hx (v := (0 : Int32)) (hb hby d_prog_7_method_12_44) (pc' := 45) rfl rfl ?_
          refine gStoreIN X2 hx (hb hby d_prog_7_method_12_45) (l' := #[.val (.ref a), .val (.int (0 : Int32)), .val (.int (0 : Int32)), .val (.int c0)]) (pc' := 46) rfl rfl ?_
          refine gIinc X2 hx (v := (1 : Int32)) (hb hby d_prog_7_method_12_46) (l' := #[.val (.ref a), .val (.int (0 : Int32)), .val (.int (1 : Int32)), .val (.int c0)]) (pc' := 49) rfl rfl rfl rfl ?_
          refine gGoto X2 hx (hb hby d_prog_7_method_12_49) (pc' := 4) (by decide) (by decide) ?_
          refine gLoadIN X2 hx (hb hby d_prog_7_method_12_4) (pc' := 5) rfl rfl ?_
          refine gLoadAN X2 hx (hb hby d_prog_7_method_12_5) (pc' := 6) rfl rfl rfl ?_
          refine gCallVJ X2 hx hZ (y := (⟨"java/lang/String", "length", "()I"⟩ : MethodName)) hown e2 (by rw [hml]; rfl) E (hw _ (List.mem_of_getElem? (i := 27) rfl)) (hw _ (List.mem_of_getElem? (i := 28) rfl)) (hw _ (List.mem_of_getElem? (i := 30) rfl)) (hw _ (List.mem_of_getElem? (i := 29) rfl)) (hw _ (List.mem_of_getElem? (i := 4) rfl)) (hw _ (List.mem_of_getElem? (i := 31) rfl)) (by decide) (argsL := []) (st := [(.int (1 : Int32))]) (c_length_2 l Z a0 hw a t ck c0 c1 h0 hCpt E C V A hc0 hc1) (lenOf pd_1 rfl) (hb hby d_prog_7_method_12_6) (pc' := 9) rfl rfl rfl rfl (by decide) (W := 1) (Nat.le_of_eq rfl) (by decide) (by decide) (by decide) ?_
          intro T12 X12 e12
          refine gIcmpGe X12 hx (hb hby d_prog_7_method_12_9) (pc' := 52) (by decide) (by decide) (pn := 12) rfl (fun (c9' : (2 : Int) ≤ (1 : Int)) => ?_) (fun (c9' : (1 : Int) < (2 : Int)) => ?_)
          · exact absurd c9' (by decide)
          · refine gLoadAN X12 hx (hb hby d_prog_7_method_12_12) (pc' := 13) rfl rfl rfl ?_
            refine gLoadIN X12 hx (hb hby d_prog_7_method_12_13) (pc' := 14) rfl rfl ?_
            refine gCallVJ X12 hx hZ (y := (⟨"java/lang/String", "charAt", "(I)C"⟩ : MethodName)) hown e12 (by rw [hml]; rfl) E (hw _ (List.mem_of_getElem? (i := 52) rfl)) (hw _ (List.mem_of_getElem? (i := 53) rfl)) (hw _ (List.mem_of_getElem? (i := 55) rfl)) (hw _ (List.mem_of_getElem? (i := 54) rfl)) (hw _ (List.mem_of_getElem? (i := 4) rfl)) (hw _ (List.mem_of_getElem? (i := 56) rfl)) (by decide) (argsL := [(.int (1 : Int32))]) (st := []) (c_charAt_1_2 l Z a0 hw a t ck c0 c1 h0 hSio hCpt E C V A hc0 hc1) (lenOf pd_5 rfl) (hb hby d_prog_7_method_12_14) (pc' := 17) rfl rfl rfl rfl (by decide) (W := 0) (Nat.le_of_eq rfl) (by decide) (by decide) (by decide) ?_
            intro T13 X13 e13
            refine gStoreIN X13 hx (hb hby d_prog_7_method_12_17) (l' := #[.val (.ref a), .val (.int (0 : Int32)), .val (.int (1 : Int32)), .val (.int c1)]) (pc' := 18) rfl rfl ?_
            refine gLoadIN X13 hx (hb hby d_prog_7_method_12_18) (pc' := 19) rfl rfl ?_
            refine gIfEqT X13 hx (hb hby d_prog_7_method_12_19) (pc' := 44) (by decide) (by decide) (pn := 22) rfl (fun (c19' : (0 : Int) = (0 : Int)) => ?_) (fun (c19' : ¬ (0 : Int) = (0 : Int)) => ?_)
            · refine gIconst X13 hx (v := (0 : Int32)) (hb hby d_prog_7_method_12_44) (pc' := 45) rfl rfl ?_
              refine gStoreIN X13 hx (hb hby d_prog_7_method_12_45) (l' := #[.val (.ref a), .val (.int (0 : Int32)), .val (.int (1 : Int32)), .val (.int c1)]) (pc' := 46) rfl rfl ?_
              refine gIinc X13 hx (v := (1 : Int32)) (hb hby d_prog_7_method_12_46) (l' := #[.val (.ref a), .val (.int (0 : Int32)), .val (.int (2 : Int32)), .val (.int c1)]) (pc' := 49) rfl rfl rfl rfl ?_
              refine gGoto X13 hx (hb hby d_prog_7_method_12_49) (pc' := 4) (by decide) (by decide) ?_
              refine gLoadIN X13 hx (hb hby d_prog_7_method_12_4) (pc' := 5) rfl rfl ?_
              refine gLoadAN X13 hx (hb hby d_prog_7_method_12_5) (pc' := 6) rfl rfl rfl ?_
              refine gCallVJ X13 hx hZ (y := (⟨"java/lang/String", "length", "()I"⟩ : MethodName)) hown e13 (by rw [hml]; rfl) E (hw _ (List.mem_of_getElem? (i := 27) rfl)) (hw _ (List.mem_of_getElem? (i := 28) rfl)) (hw _ (List.mem_of_getElem? (i := 30) rfl)) (hw _ (List.mem_of_getElem? (i := 29) rfl)) (hw _ (List.mem_of_getElem? (i := 4) rfl)) (hw _ (List.mem_of_getElem? (i := 31) rfl)) (by decide) (argsL := []) (st := [(.int (2 : Int32))]) (c_length_2 l Z a0 hw a t ck c0 c1 h0 hCpt E C V A hc0 hc1) (lenOf pd_1 rfl) (hb hby d_prog_7_method_12_6) (pc' := 9) rfl rfl rfl rfl (by decide) (W := 1) (Nat.le_of_eq rfl) (by decide) (by decide) (by decide) ?_
              intro T14 X14 e14
              refine gIcmpGe X14 hx (hb hby d_prog_7_method_12_9) (pc' := 52) (by decide) (by decide) (pn := 12) rfl (fun (c9'' : (2 : Int) ≤ (2 : Int)) => ?_) (fun (c9'' : (2 : Int) < (2 : Int)) => ?_)
              · refine gLoadIN X14 hx (hb hby d_prog_7_method_12_52) (pc' := 53) rfl rfl ?_
                exact gRetN X14 hx hlk hret (by simp) (hb hby d_prog_7_method_12_53) (w := (0 : Int32)) rfl (by decide) (by decide) (just_f (by omega) e14)
              · exact absurd c9'' (by decide)
            · exact absurd c19' (by decide)
        · refine gLoadIN X2 hx (hb hby d_prog_7_method_12_34) (pc' := 35) rfl rfl ?_
          refine gBipush X2 hx (v := (127 : Int32)) (hb hby d_prog_7_method_12_35) (pc' := 37) rfl rfl ?_
          refine gIcmpEqT X2 hx (hb hby d_prog_7_method_12_37) (pc' := 44) (by decide) (by decide) (pn := 40) rfl (fun (c37 : c0.toInt = (127 : Int)) => ?_) (fun (c37 : ¬ c0.toInt = (127 : Int)) => ?_)
          · exact absurd c37 (by omega)
          · refine gIconst X2 hx (v := (1 : Int32)) (hb hby d_prog_7_method_12_40) (pc' := 41) rfl rfl ?_
            refine gGoto X2 hx (hb hby d_prog_7_method_12_41) (pc' := 45) (by decide) (by decide) ?_
            refine gStoreIN X2 hx (hb hby d_prog_7_method_12_45) (l' := #[.val (.ref a), .val (.int (1 : Int32)), .val (.int (0 : Int32)), .val (.int c0)]) (pc' := 46) rfl rfl ?_
            refine gIinc X2 hx (v := (1 : Int32)) (hb hby d_prog_7_method_12_46) (l' := #[.val (.ref a), .val (.int (1 : Int32)), .val (.int (1 : Int32)), .val (.int c0)]) (pc' := 49) rfl rfl rfl rfl ?_
            refine gGoto X2 hx (hb hby d_prog_7_method_12_49) (pc' := 4) (by decide) (by decide) ?_
            refine gLoadIN X2 hx (hb hby d_prog_7_method_12_4) (pc' := 5) rfl rfl ?_
            refine gLoadAN X2 hx (hb hby d_prog_7_method_12_5) (pc' := 6) rfl rfl rfl ?_
            refine gCallVJ X2 hx hZ (y := (⟨"java/lang/String", "length", "()I"⟩ : MethodName)) hown e2 (by rw [hml]; rfl) E (hw _ (List.mem_of_getElem? (i := 27) rfl)) (hw _ (List.mem_of_getElem? (i := 28) rfl)) (hw _ (List.mem_of_getElem? (i := 30) rfl)) (hw _ (List.mem_of_getElem? (i := 29) rfl)) (hw _ (List.mem_of_getElem? (i := 4) rfl)) (hw _ (List.mem_of_getElem? (i := 31) rfl)) (by decide) (argsL := []) (st := [(.int (1 : Int32))]) (c_length_2 l Z a0 hw a t ck c0 c1 h0 hCpt E C V A hc0 hc1) (lenOf pd_1 rfl) (hb hby d_prog_7_method_12_6) (pc' := 9) rfl rfl rfl rfl (by decide) (W := 1) (Nat.le_of_eq rfl) (by decide) (by decide) (by decide) ?_
            intro T15 X15 e15
            refine gIcmpGe X15 hx (hb hby d_prog_7_method_12_9) (pc' := 52) (by decide) (by decide) (pn := 12) rfl (fun (c9' : (2 : Int) ≤ (1 : Int)) => ?_) (fun (c9' : (1 : Int) < (2 : Int)) => ?_)
            · exact absurd c9' (by decide)
            · refine gLoadAN X15 hx (hb hby d_prog_7_method_12_12) (pc' := 13) rfl rfl rfl ?_
              refine gLoadIN X15 hx (hb hby d_prog_7_method_12_13) (pc' := 14) rfl rfl ?_
              refine gCallVJ X15 hx hZ (y := (⟨"java/lang/String", "charAt", "(I)C"⟩ : MethodName)) hown e15 (by rw [hml]; rfl) E (hw _ (List.mem_of_getElem? (i := 52) rfl)) (hw _ (List.mem_of_getElem? (i := 53) rfl)) (hw _ (List.mem_of_getElem? (i := 55) rfl)) (hw _ (List.mem_of_getElem? (i := 54) rfl)) (hw _ (List.mem_of_getElem? (i := 4) rfl)) (hw _ (List.mem_of_getElem? (i := 56) rfl)) (by decide) (argsL := [(.int (1 : Int32))]) (st := []) (c_charAt_1_2 l Z a0 hw a t ck c0 c1 h0 hSio hCpt E C V A hc0 hc1) (lenOf pd_5 rfl) (hb hby d_prog_7_method_12_14) (pc' := 17) rfl rfl rfl rfl (by decide) (W := 0) (Nat.le_of_eq rfl) (by decide) (by decide) (by decide) ?_
              intro T16 X16 e16
              refine gStoreIN X16 hx (hb hby d_prog_7_method_12_17) (l' := #[.val (.ref a), .val (.int (1 : Int32)), .val (.int (1 : Int32)), .val (.int c1)]) (pc' := 18) rfl rfl ?_
              refine gLoadIN X16 hx (hb hby d_prog_7_method_12_18) (pc' := 19) rfl rfl ?_
              refine gIfEqT X16 hx (hb hby d_prog_7_method_12_19) (pc' := 44) (by decide) (by decide) (pn := 22) rfl (fun (c19' : (1 : Int) = (0 : Int)) => ?_) (fun (c19' : ¬ (1 : Int) = (0 : Int)) => ?_)
              · exact absurd c19' (by decide)
              · refine gLoadIN X16 hx (hb hby d_prog_7_method_12_22) (pc' := 23) rfl rfl ?_
                refine gBipush X16 hx (v := (32 : Int32)) (hb hby d_prog_7_method_12_23) (pc' := 25) rfl rfl ?_
                refine gIcmpGe X16 hx (hb hby d_prog_7_method_12_25) (pc' := 34) (by decide) (by decide) (pn := 28) rfl (fun (c25' : (32 : Int) ≤ c1.toInt) => ?_) (fun (c25' : c1.toInt < (32 : Int)) => ?_)
                · refine gLoadIN X16 hx (hb hby d_prog_7_method_12_34) (pc' := 35) rfl rfl ?_
                  refine gBipush X16 hx (v := (127 : Int32)) (hb hby d_prog_7_method_12_35) (pc' := 37) rfl rfl ?_
                  refine gIcmpEqT X16 hx (hb hby d_prog_7_method_12_37) (pc' := 44) (by decide) (by decide) (pn := 40) rfl (fun (c37' : c1.toInt = (127 : Int)) => ?_) (fun (c37' : ¬ c1.toInt = (127 : Int)) => ?_)
                  · refine gIconst X16 hx (v := (0 : Int32)) (hb hby d_prog_7_method_12_44) (pc' := 45) rfl rfl ?_
                    refine gStoreIN X16 hx (hb hby d_prog_7_method_12_45) (l' := #[.val (.ref a), .val (.int (0 : Int32)), .val (.int (1 : Int32)), .val (.int c1)]) (pc' := 46) rfl rfl ?_
                    refine gIinc X16 hx (v := (1 : Int32)) (hb hby d_prog_7_method_12_46) (l' := #[.val (.ref a), .val (.int (0 : Int32)), .val (.int (2 : Int32)), .val (.int c1)]) (pc' := 49) rfl rfl rfl rfl ?_
                    refine gGoto X16 hx (hb hby d_prog_7_method_12_49) (pc' := 4) (by decide) (by decide) ?_
                    refine gLoadIN X16 hx (hb hby d_prog_7_method_12_4) (pc' := 5) rfl rfl ?_
                    refine gLoadAN X16 hx (hb hby d_prog_7_method_12_5) (pc' := 6) rfl rfl rfl ?_
                    refine gCallVJ X16 hx hZ (y := (⟨"java/lang/String", "length", "()I"⟩ : MethodName)) hown e16 (by rw [hml]; rfl) E (hw _ (List.mem_of_getElem? (i := 27) rfl)) (hw _ (List.mem_of_getElem? (i := 28) rfl)) (hw _ (List.mem_of_getElem? (i := 30) rfl)) (hw _ (List.mem_of_getElem? (i := 29) rfl)) (hw _ (List.mem_of_getElem? (i := 4) rfl)) (hw _ (List.mem_of_getElem? (i := 31) rfl)) (by decide) (argsL := []) (st := [(.int (2 : Int32))]) (c_length_2 l Z a0 hw a t ck c0 c1 h0 hCpt E C V A hc0 hc1) (lenOf pd_1 rfl) (hb hby d_prog_7_method_12_6) (pc' := 9) rfl rfl rfl rfl (by decide) (W := 1) (Nat.le_of_eq rfl) (by decide) (by decide) (by decide) ?_
                    intro T17 X17 e17
                    refine gIcmpGe X17 hx (hb hby d_prog_7_method_12_9) (pc' := 52) (by decide) (by decide) (pn := 12) rfl (fun (c9'' : (2 : Int) ≤ (2 : Int)) => ?_) (fun (c9'' : (2 : Int) < (2 : Int)) => ?_)
                    · refine gLoadIN X17 hx (hb hby d_prog_7_method_12_52) (pc' := 53) rfl rfl ?_
                      exact gRetN X17 hx hlk hret (by simp) (hb hby d_prog_7_method_12_53) (w := (0 : Int32)) rfl (by decide) (by decide) (just_f (by omega) e17)
                    · exact absurd c9'' (by decide)
                  · refine gIconst X16 hx (v := (1 : Int32)) (hb hby d_prog_7_method_12_40) (pc' := 41) rfl rfl ?_
                    refine gGoto X16 hx (hb hby d_prog_7_method_12_41) (pc' := 45) (by decide) (by decide) ?_
                    refine gStoreIN X16 hx (hb hby d_prog_7_method_12_45) (l' := #[.val (.ref a), .val (.int (1 : Int32)), .val (.int (1 : Int32)), .val (.int c1)]) (pc' := 46) rfl rfl ?_
                    refine gIinc X16 hx (v := (1 : Int32)) (hb hby d_prog_7_method_12_46) (l' := #[.val (.ref a), .val (.int (1 : Int32)), .val (.int (2 : Int32)), .val (.int c1)]) (pc' := 49) rfl rfl rfl rfl ?_
                    refine gGoto X16 hx (hb hby d_prog_7_method_12_49) (pc' := 4) (by decide) (by decide) ?_
                    refine gLoadIN X16 hx (hb hby d_prog_7_method_12_4) (pc' := 5) rfl rfl ?_
                    refine gLoadAN X16 hx (hb hby d_prog_7_method_12_5) (pc' := 6) rfl rfl rfl ?_
                    refine gCallVJ X16 hx hZ (y := (⟨"java/lang/String", "length", "()I"⟩ : MethodName)) hown e16 (by rw [hml]; rfl) E (hw _ (List.mem_of_getElem? (i := 27) rfl)) (hw _ (List.mem_of_getElem? (i := 28) rfl)) (hw _ (List.mem_of_getElem? (i := 30) rfl)) (hw _ (List.mem_of_getElem? (i := 29) rfl)) (hw _ (List.mem_of_getElem? (i := 4) rfl)) (hw _ (List.mem_of_getElem? (i := 31) rfl)) (by decide) (argsL := []) (st := [(.int (2 : Int32))]) (c_length_2 l Z a0 hw a t ck c0 c1 h0 hCpt E C V A hc0 hc1) (lenOf pd_1 rfl) (hb hby d_prog_7_method_12_6) (pc' := 9) rfl rfl rfl rfl (by decide) (W := 1) (Nat.le_of_eq rfl) (by decide) (by decide) (by decide) ?_
                    intro T18 X18 e18
                    refine gIcmpGe X18 hx (hb hby d_prog_7_method_12_9) (pc' := 52) (by decide) (by decide) (pn := 12) rfl (fun (c9'' : (2 : Int) ≤ (2 : Int)) => ?_) (fun (c9'' : (2 : Int) < (2 : Int)) => ?_)
                    · refine gLoadIN X18 hx (hb hby d_prog_7_method_12_52) (pc' := 53) rfl rfl ?_
                      exact gRetN X18 hx hlk hret (by simp) (hb hby d_prog_7_method_12_53) (w := (1 : Int32)) rfl (by decide) (by decide) (just_t (by omega) e18)
                    · exact absurd c9'' (by decide)
                · refine gLoadIN X16 hx (hb hby d_prog_7_method_12_28) (pc' := 29) rfl rfl ?_
                  refine gBipush X16 hx (v := (9 : Int32)) (hb hby d_prog_7_method_12_29) (pc' := 31) rfl rfl ?_
                  refine gIcmpNeT X16 hx (hb hby d_prog_7_method_12_31) (pc' := 44) (by decide) (by decide) (pn := 34) rfl (fun (c31' : ¬ c1.toInt = (9 : Int)) => ?_) (fun (c31' : c1.toInt = (9 : Int)) => ?_)
                  · refine gIconst X16 hx (v := (0 : Int32)) (hb hby d_prog_7_method_12_44) (pc' := 45) rfl rfl ?_
                    refine gStoreIN X16 hx (hb hby d_prog_7_method_12_45) (l' := #[.val (.ref a), .val (.int (0 : Int32)), .val (.int (1 : Int32)), .val (.int c1)]) (pc' := 46) rfl rfl ?_
                    refine gIinc X16 hx (v := (1 : Int32)) (hb hby d_prog_7_method_12_46) (l' := #[.val (.ref a), .val (.int (0 : Int32)), .val (.int (2 : Int32)), .val (.int c1)]) (pc' := 49) rfl rfl rfl rfl ?_
                    refine gGoto X16 hx (hb hby d_prog_7_method_12_49) (pc' := 4) (by decide) (by decide) ?_
                    refine gLoadIN X16 hx (hb hby d_prog_7_method_12_4) (pc' := 5) rfl rfl ?_
                    refine gLoadAN X16 hx (hb hby d_prog_7_method_12_5) (pc' := 6) rfl rfl rfl ?_
                    refine gCallVJ X16 hx hZ (y := (⟨"java/lang/String", "length", "()I"⟩ : MethodName)) hown e16 (by rw [hml]; rfl) E (hw _ (List.mem_of_getElem? (i := 27) rfl)) (hw _ (List.mem_of_getElem? (i := 28) rfl)) (hw _ (List.mem_of_getElem? (i := 30) rfl)) (hw _ (List.mem_of_getElem? (i := 29) rfl)) (hw _ (List.mem_of_getElem? (i := 4) rfl)) (hw _ (List.mem_of_getElem? (i := 31) rfl)) (by decide) (argsL := []) (st := [(.int (2 : Int32))]) (c_length_2 l Z a0 hw a t ck c0 c1 h0 hCpt E C V A hc0 hc1) (lenOf pd_1 rfl) (hb hby d_prog_7_method_12_6) (pc' := 9) rfl rfl rfl rfl (by decide) (W := 1) (Nat.le_of_eq rfl) (by decide) (by decide) (by decide) ?_
                    intro T19 X19 e19
                    refine gIcmpGe X19 hx (hb hby d_prog_7_method_12_9) (pc' := 52) (by decide) (by decide) (pn := 12) rfl (fun (c9'' : (2 : Int) ≤ (2 : Int)) => ?_) (fun (c9'' : (2 : Int) < (2 : Int)) => ?_)
                    · refine gLoadIN X19 hx (hb hby d_prog_7_method_12_52) (pc' := 53) rfl rfl ?_
                      exact gRetN X19 hx hlk hret (by simp) (hb hby d_prog_7_method_12_53) (w := (0 : Int32)) rfl (by decide) (by decide) (just_f (by omega) e19)
                    · exact absurd c9'' (by decide)
                  · refine gLoadIN X16 hx (hb hby d_prog_7_method_12_34) (pc' := 35) rfl rfl ?_
                    refine gBipush X16 hx (v := (127 : Int32)) (hb hby d_prog_7_method_12_35) (pc' := 37) rfl rfl ?_
                    refine gIcmpEqT X16 hx (hb hby d_prog_7_method_12_37) (pc' := 44) (by decide) (by decide) (pn := 40) rfl (fun (c37' : c1.toInt = (127 : Int)) => ?_) (fun (c37' : ¬ c1.toInt = (127 : Int)) => ?_)
                    · exact absurd c37' (by omega)
                    · refine gIconst X16 hx (v := (1 : Int32)) (hb hby d_prog_7_method_12_40) (pc' := 41) rfl rfl ?_
                      refine gGoto X16 hx (hb hby d_prog_7_method_12_41) (pc' := 45) (by decide) (by decide) ?_
                      refine gStoreIN X16 hx (hb hby d_prog_7_method_12_45) (l' := #[.val (.ref a), .val (.int (1 : Int32)), .val (.int (1 : Int32)), .val (.int c1)]) (pc' := 46) rfl rfl ?_
                      refine gIinc X16 hx (v := (1 : Int32)) (hb hby d_prog_7_method_12_46) (l' := #[.val (.ref a), .val (.int (1 : Int32)), .val (.int (2 : Int32)), .val (.int c1)]) (pc' := 49) rfl rfl rfl rfl ?_
                      refine gGoto X16 hx (hb hby d_prog_7_method_12_49) (pc' := 4) (by decide) (by decide) ?_
                      refine gLoadIN X16 hx (hb hby d_prog_7_method_12_4) (pc' := 5) rfl rfl ?_
                      refine gLoadAN X16 hx (hb hby d_prog_7_method_12_5) (pc' := 6) rfl rfl rfl ?_
                      refine gCallVJ X16 hx hZ (y := (⟨"java/lang/String", "length", "()I"⟩ : MethodName)) hown e16 (by rw [hml]; rfl) E (hw _ (List.mem_of_getElem? (i := 27) rfl)) (hw _ (List.mem_of_getElem? (i := 28) rfl)) (hw _ (List.mem_of_getElem? (i := 30) rfl)) (hw _ (List.mem_of_getElem? (i := 29) rfl)) (hw _ (List.mem_of_getElem? (i := 4) rfl)) (hw _ (List.mem_of_getElem? (i := 31) rfl)) (by decide) (argsL := []) (st := [(.int (2 : Int32))]) (c_length_2 l Z a0 hw a t ck c0 c1 h0 hCpt E C V A hc0 hc1) (lenOf pd_1 rfl) (hb hby d_prog_7_method_12_6) (pc' := 9) rfl rfl rfl rfl (by decide) (W := 1) (Nat.le_of_eq rfl) (by decide) (by decide) (by decide) ?_
                      intro T20 X20 e20
                      refine gIcmpGe X20 hx (hb hby d_prog_7_method_12_9) (pc' := 52) (by decide) (by decide) (pn := 12) rfl (fun (c9'' : (2 : Int) ≤ (2 : Int)) => ?_) (fun (c9'' : (2 : Int) < (2 : Int)) => ?_)
                      · refine gLoadIN X20 hx (hb hby d_prog_7_method_12_52) (pc' := 53) rfl rfl ?_
                        exact gRetN X20 hx hlk hret (by simp) (hb hby d_prog_7_method_12_53) (w := (1 : Int32)) rfl (by decide) (by decide) (just_t (by omega) e20)
                      · exact absurd c9'' (by decide)
theorem ef_c_length_3 (m : MethodId) (a : Addr) : entryFrame m #[(.ref a)] 1 = mkF m 0 #[.val (.ref a)] [] := by first | (simp [entryFrame, mkF, argsToLocals, Value.category]; done) | rfl
set_option maxRecDepth 65536 in
set_option maxHeartbeats 40000000 in
theorem c_length_3 (l : Launch) (Z : State) (a0 : Array Value) (hw : ∀ d ∈ tables_1, d.before a0 Z = true) (a t : Addr) (ck : ClassId) (c0 c1 c2 : Int32) (h0 : Heap) (hCpt : Cpt Z h0) (E : Exa Z h0 a "java/lang/String") (C : Fld Z h0 a "java/lang/String" "coder" "B" (.int 0)) (V : Fld Z h0 a "java/lang/String" "value" "[B" (.ref t)) (A : Arv Z h0 t ck .byte 3 [by8 c0, by8 c1, by8 c2] (.int 0)) (hc0 : 0 ≤ c0.toInt ∧ c0.toInt ≤ 255) (hc1 : 0 ≤ c1.toInt ∧ c1.toInt ≤ 255) (hc2 : 0 ≤ c2.toInt ∧ c2.toInt ≤ 255) :
    Ctr l Z (⟨"java/lang/String", "length", "()I"⟩ : MethodName) jdk_42_method_54_code 1 (some .int) [] ({ frames := 1, cells := 0, slots := 0, locals := 13 } : Room) #[(.ref a)] h0 (Just h0 (.int 3)) := by
  refine Ctr.of (plainFor_of_name pn_3) ?_
  intro p e s m below meth c s₁ hx hby hml hret hown hnm hZ hlk X0 e0
  refine Goes.cast (ef_c_length_3 m a) ?_
  refine gLoadAN X0 hx (hb hby d_jdk_42_method_54_0) (pc' := 1) rfl rfl rfl ?_
  refine gGetF X0 hx hZ hown (hw _ (List.mem_of_getElem? (i := 21) rfl)) Via.refl e0 V (hb hby d_jdk_42_method_54_1) (pc' := 4) rfl (fun T1 X1 e1 => ?_)
  refine gArrLen X1 hx hZ e1 A (hb hby d_jdk_42_method_54_4) (pc' := 5) rfl ?_
  refine gLoadAN X1 hx (hb hby d_jdk_42_method_54_5) (pc' := 6) rfl rfl rfl ?_
  refine gCallVJ X1 hx hZ (y := (⟨"java/lang/String", "coder", "()B"⟩ : MethodName)) hown e1 (by rw [hml]; rfl) E (hw _ (List.mem_of_getElem? (i := 32) rfl)) (hw _ (List.mem_of_getElem? (i := 33) rfl)) (hw _ (List.mem_of_getElem? (i := 35) rfl)) (hw _ (List.mem_of_getElem? (i := 34) rfl)) (hw _ (List.mem_of_getElem? (i := 4) rfl)) (hw _ (List.mem_of_getElem? (i := 36) rfl)) (by decide) (argsL := []) (st := [(.int (3 : Int32))]) (c_coder l Z a0 hw a h0 hCpt C) (lenOf pd_0 rfl) (hb hby d_jdk_42_method_54_6) (pc' := 9) rfl rfl rfl rfl (by decide) (W := 1) (Nat.le_of_eq rfl) (by decide) (by decide) (by decide) ?_
  intro T2 X2 e2
  refine gIshr X2 hx (hb hby d_jdk_42_method_54_9) (pc' := 10) rfl ?_
  show Goes p e below _ T2 (mkF m 10 #[.val (.ref a)] [(.int (3 : Int32))])
  exact gRetI X2 hx hlk hret (hb hby d_jdk_42_method_54_10) (by decide) (by decide) (⟨rfl, e2, rfl⟩)
theorem ef_c_chk_0_3p (m : MethodId) (sf : Value) (hsf : sf.isRef = true) : entryFrame m #[(.int (0 : Int32)), (.int (3 : Int32)), sf] 3 = mkF m 0 #[.val (.int (0 : Int32)), .val (.int (3 : Int32)), .val sf] [] := by rcases ref_cases hsf with rfl | ⟨_, rfl⟩ <;> (first | (simp [entryFrame, mkF, argsToLocals, Value.category]; done) | rfl)
set_option maxRecDepth 65536 in
set_option maxHeartbeats 40000000 in
theorem c_chk_0_3p (l : Launch) (Z : State) (a0 : Array Value) (hw : ∀ d ∈ tables_1, d.before a0 Z = true) (sf : Value) (hsf : sf.isRef = true) (h0 : Heap)  :
    Ctr l Z (⟨"jdk/internal/util/Preconditions", "checkIndex", "(IILjava/util/function/BiFunction;)I"⟩ : MethodName) jdk_41_method_11_code 3 (some .int) [] ({ frames := 0, cells := 0, slots := 0, locals := 0 } : Room) #[(.int (0 : Int32)), (.int (3 : Int32)), sf] h0 (Just h0 (.int 0)) := by
  refine Ctr.of (plainFor_of_name pn_6) ?_
  intro p e s m below meth c s₁ hx hby hml hret hown hnm hZ hlk X0 e0
  refine Goes.cast (ef_c_chk_0_3p m sf hsf) ?_
  refine gLoadIN X0 hx (hb hby d_jdk_41_method_11_0) (pc' := 1) rfl rfl ?_
  refine gIfLt X0 hx (hb hby d_jdk_41_method_11_1) (pc' := 9) (by decide) (by decide) (pn := 4) rfl (fun (c1 : (0 : Int) < (0 : Int)) => ?_) (fun (c1 : (0 : Int) ≤ (0 : Int)) => ?_)
  · exact absurd c1 (by decide)
  · refine gLoadIN X0 hx (hb hby d_jdk_41_method_11_4) (pc' := 5) rfl rfl ?_
    refine gLoadIN X0 hx (hb hby d_jdk_41_method_11_5) (pc' := 6) rfl rfl ?_
    refine gIcmpLt X0 hx (hb hby d_jdk_41_method_11_6) (pc' := 16) (by decide) (by decide) (pn := 9) rfl (fun (c6 : (0 : Int) < (3 : Int)) => ?_) (fun (c6 : (3 : Int) ≤ (0 : Int)) => ?_)
    · refine gLoadIN X0 hx (hb hby d_jdk_41_method_11_16) (pc' := 17) rfl rfl ?_
      exact gRetI X0 hx hlk hret (hb hby d_jdk_41_method_11_17) (by decide) (by decide) (⟨rfl, e0, rfl⟩)
    · exact absurd c6 (by decide)
theorem ef_c_chk_0_3 (m : MethodId)  : entryFrame m #[(.int (0 : Int32)), (.int (3 : Int32))] 2 = mkF m 0 #[.val (.int (0 : Int32)), .val (.int (3 : Int32))] [] := by first | (simp [entryFrame, mkF, argsToLocals, Value.category]; done) | rfl
set_option maxRecDepth 65536 in
set_option maxHeartbeats 40000000 in
theorem c_chk_0_3 (l : Launch) (Z : State) (a0 : Array Value) (hw : ∀ d ∈ tables_1, d.before a0 Z = true)  (h0 : Heap) (hSio : Sio Z h0) :
    Ctr l Z (⟨"java/lang/String", "checkIndex", "(II)V"⟩ : MethodName) jdk_42_method_155_code 2 none [] ({ frames := 1, cells := 0, slots := 0, locals := 14 } : Room) #[(.int (0 : Int32)), (.int (3 : Int32))] h0 (fun v h L => v = none ∧ h = h0 ∧ L = []) := by
  refine Ctr.of (plainFor_of_name pn_3) ?_
  intro p e s m below meth c s₁ hx hby hml hret hown hnm hZ hlk X0 e0
  refine Goes.cast (ef_c_chk_0_3 m ) ?_
  obtain ⟨sf, SF, hsf⟩ := hSio
  refine gLoadIN X0 hx (hb hby d_jdk_42_method_155_0) (pc' := 1) rfl rfl ?_
  refine gLoadIN X0 hx (hb hby d_jdk_42_method_155_1) (pc' := 2) rfl rfl ?_
  refine gGetS X0 hx hZ hown (hw _ (List.mem_of_getElem? (i := 69) rfl)) Via.refl e0 SF (hb hby d_jdk_42_method_155_2) (pc' := 5) rfl (fun T1 X1 e1 => ?_)
  refine gCallSJ X1 hx hZ (y := (⟨"jdk/internal/util/Preconditions", "checkIndex", "(IILjava/util/function/BiFunction;)I"⟩ : MethodName)) hown e1 (by rw [hml]; rfl) (hw _ (List.mem_of_getElem? (i := 71) rfl)) (hw _ (List.mem_of_getElem? (i := 72) rfl)) (hw _ (List.mem_of_getElem? (i := 70) rfl)) (hw _ (List.mem_of_getElem? (i := 73) rfl)) (by decide) (argsL := [(.int (0 : Int32)), (.int (3 : Int32)), sf]) (st := []) (c_chk_0_3p l Z a0 hw sf hsf h0) (lenOf pd_7 rfl) (hb hby d_jdk_42_method_155_5) (pc' := 8) rfl rfl rfl rfl (by decide) (W := 0) (Nat.le_of_eq rfl) (by decide) (by decide) (by decide) ?_
  intro T2 X2 e2
  refine gPop X2 hx (hb hby d_jdk_42_method_155_8) (pc' := 9) rfl rfl ?_
  exact gRetV X2 hx hlk hret (hb hby d_jdk_42_method_155_9) (by decide) (by decide) (⟨rfl, e2, rfl⟩)
theorem ef_c_charAt_0_3l (m : MethodId) (t : Addr) : entryFrame m #[(.ref t), (.int (0 : Int32))] 2 = mkF m 0 #[.val (.ref t), .val (.int (0 : Int32))] [] := by first | (simp [entryFrame, mkF, argsToLocals, Value.category]; done) | rfl
set_option maxRecDepth 65536 in
set_option maxHeartbeats 40000000 in
theorem c_charAt_0_3l (l : Launch) (Z : State) (a0 : Array Value) (hw : ∀ d ∈ tables_1, d.before a0 Z = true) (t : Addr) (ck : ClassId) (c0 c1 c2 : Int32) (h0 : Heap) (hSio : Sio Z h0) (A : Arv Z h0 t ck .byte 3 [by8 c0, by8 c1, by8 c2] (.int 0)) (hc0 : 0 ≤ c0.toInt ∧ c0.toInt ≤ 255) (hc1 : 0 ≤ c1.toInt ∧ c1.toInt ≤ 255) (hc2 : 0 ≤ c2.toInt ∧ c2.toInt ≤ 255) :
    Ctr l Z (⟨"java/lang/StringLatin1", "charAt", "([BI)C"⟩ : MethodName) jdk_43_method_2_code 2 (some .char) [] ({ frames := 2, cells := 0, slots := 0, locals := 28 } : Room) #[(.ref t), (.int (0 : Int32))] h0 (Just h0 (.int c0)) := by
  refine Ctr.of (plainFor_of_name pn_4) ?_
  intro p e s m below meth c s₁ hx hby hml hret hown hnm hZ hlk X0 e0
  refine Goes.cast (ef_c_charAt_0_3l m t) ?_
  refine gLoadIN X0 hx (hb hby d_jdk_43_method_2_0) (pc' := 1) rfl rfl ?_
  refine gLoadAN X0 hx (hb hby d_jdk_43_method_2_1) (pc' := 2) rfl rfl rfl ?_
  refine gArrLen X0 hx hZ e0 A (hb hby d_jdk_43_method_2_2) (pc' := 3) rfl ?_
  refine gCallS X0 hx hZ (y := (⟨"java/lang/String", "checkIndex", "(II)V"⟩ : MethodName)) hown e0 (by rw [hml]; rfl) (hw _ (List.mem_of_getElem? (i := 66) rfl)) (hw _ (List.mem_of_getElem? (i := 67) rfl)) (hw _ (List.mem_of_getElem? (i := 4) rfl)) (hw _ (List.mem_of_getElem? (i := 68) rfl)) (by decide) (argsL := [(.int (0 : Int32)), (.int (3 : Int32))]) (st := []) (c_chk_0_3 l Z a0 hw h0 hSio) (lenOf pd_6 rfl) (hb hby d_jdk_43_method_2_3) (pc' := 6) rfl rfl (by decide) (W := 0) (Nat.le_of_eq rfl) (by decide) (by decide) (by decide) ?_
  intro T1 v1 L1 X1 hQ1
  obtain ⟨rfl, eq1, rfl⟩ := hQ1
  rw [List.append_nil] at X1
  refine gLoadAN X1 hx (hb hby d_jdk_43_method_2_6) (pc' := 7) rfl rfl rfl ?_
  refine gLoadIN X1 hx (hb hby d_jdk_43_method_2_7) (pc' := 8) rfl rfl ?_
  refine gBaload X1 hx hZ eq1 A (j := (0 : Int32)) (v := (.int (c0.toInt8.toInt32))) (by decide) (by decide) rfl (hb hby d_jdk_43_method_2_8) (pc' := 9) rfl ?_
  refine gSipush X1 hx (v := (255 : Int32)) (hb hby d_jdk_43_method_2_9) (pc' := 12) rfl rfl ?_
  refine gIand X1 hx (hb hby d_jdk_43_method_2_12) (pc' := 13) rfl ?_
  refine gI2c X1 hx (hb hby d_jdk_43_method_2_13) (pc' := 14) rfl ?_
  rw [own_ch hc0]
  exact gRetN X1 hx hlk hret (by simp) (hb hby d_jdk_43_method_2_14) (w := c0) (own_nc (own_c8 hc0)) (by decide) (by decide) (⟨rfl, eq1, rfl⟩)
theorem ef_c_charAt_0_3 (m : MethodId) (a : Addr) : entryFrame m #[(.ref a), (.int (0 : Int32))] 2 = mkF m 0 #[.val (.ref a), .val (.int (0 : Int32))] [] := by first | (simp [entryFrame, mkF, argsToLocals, Value.category]; done) | rfl
set_option maxRecDepth 65536 in
set_option maxHeartbeats 40000000 in
theorem c_charAt_0_3 (l : Launch) (Z : State) (a0 : Array Value) (hw : ∀ d ∈ tables_1, d.before a0 Z = true) (a t : Addr) (ck : ClassId) (c0 c1 c2 : Int32) (h0 : Heap) (hSio : Sio Z h0) (hCpt : Cpt Z h0) (E : Exa Z h0 a "java/lang/String") (C : Fld Z h0 a "java/lang/String" "coder" "B" (.int 0)) (V : Fld Z h0 a "java/lang/String" "value" "[B" (.ref t)) (A : Arv Z h0 t ck .byte 3 [by8 c0, by8 c1, by8 c2] (.int 0)) (hc0 : 0 ≤ c0.toInt ∧ c0.toInt ≤ 255) (hc1 : 0 ≤ c1.toInt ∧ c1.toInt ≤ 255) (hc2 : 0 ≤ c2.toInt ∧ c2.toInt ≤ 255) :
    Ctr l Z (⟨"java/lang/String", "charAt", "(I)C"⟩ : MethodName) jdk_42_method_56_code 2 (some .char) [] ({ frames := 3, cells := 0, slots := 0, locals := 41 } : Room) #[(.ref a), (.int (0 : Int32))] h0 (Just h0 (.int c0)) := by
  refine Ctr.of (plainFor_of_name pn_3) ?_
  intro p e s m below meth c s₁ hx hby hml hret hown hnm hZ hlk X0 e0
  refine Goes.cast (ef_c_charAt_0_3 m a) ?_
  refine gLoadAN X0 hx (hb hby d_jdk_42_method_56_0) (pc' := 1) rfl rfl rfl ?_
  refine gCallVJ X0 hx hZ (y := (⟨"java/lang/String", "isLatin1", "()Z"⟩ : MethodName)) hown e0 (by rw [hml]; rfl) E (hw _ (List.mem_of_getElem? (i := 57) rfl)) (hw _ (List.mem_of_getElem? (i := 58) rfl)) (hw _ (List.mem_of_getElem? (i := 60) rfl)) (hw _ (List.mem_of_getElem? (i := 59) rfl)) (hw _ (List.mem_of_getElem? (i := 4) rfl)) (hw _ (List.mem_of_getElem? (i := 61) rfl)) (by decide) (argsL := []) (st := []) (c_isLatin1 l Z a0 hw a h0 hCpt C) (lenOf pd_3 rfl) (hb hby d_jdk_42_method_56_1) (pc' := 4) rfl rfl rfl rfl (by decide) (W := 0) (Nat.le_of_eq rfl) (by decide) (by decide) (by decide) ?_
  intro T1 X1 e1
  refine gIfEqT X1 hx (hb hby d_jdk_42_method_56_4) (pc' := 16) (by decide) (by decide) (pn := 7) rfl (fun (c4 : (1 : Int) = (0 : Int)) => ?_) (fun (c4 : ¬ (1 : Int) = (0 : Int)) => ?_)
  · exact absurd c4 (by decide)
  · refine gLoadAN X1 hx (hb hby d_jdk_42_method_56_7) (pc' := 8) rfl rfl rfl ?_
    refine gGetF X1 hx hZ hown (hw _ (List.mem_of_getElem? (i := 21) rfl)) Via.refl e1 V (hb hby d_jdk_42_method_56_8) (pc' := 11) rfl (fun T2 X2 e2 => ?_)
    refine gLoadIN X2 hx (hb hby d_jdk_42_method_56_11) (pc' := 12) rfl rfl ?_
    refine gCallSJ X2 hx hZ (y := (⟨"java/lang/StringLatin1", "charAt", "([BI)C"⟩ : MethodName)) hown e2 (by rw [hml]; rfl) (hw _ (List.mem_of_getElem? (i := 62) rfl)) (hw _ (List.mem_of_getElem? (i := 63) rfl)) (hw _ (List.mem_of_getElem? (i := 64) rfl)) (hw _ (List.mem_of_getElem? (i := 65) rfl)) (by decide) (argsL := [(.ref t), (.int (0 : Int32))]) (st := []) (c_charAt_0_3l l Z a0 hw t ck c0 c1 c2 h0 hSio A hc0 hc1 hc2) (lenOf pd_10 rfl) (hb hby d_jdk_42_method_56_12) (pc' := 15) rfl rfl rfl rfl (by decide) (W := 0) (Nat.le_of_eq rfl) (by decide) (by decide) (by decide) ?_
    intro T3 X3 e3
    exact gRetN X3 hx hlk hret (by simp) (hb hby d_jdk_42_method_56_15) (w := c0) (own_nc (own_c8 hc0)) (by decide) (by decide) (⟨rfl, e3, rfl⟩)
theorem ef_c_chk_1_3p (m : MethodId) (sf : Value) (hsf : sf.isRef = true) : entryFrame m #[(.int (1 : Int32)), (.int (3 : Int32)), sf] 3 = mkF m 0 #[.val (.int (1 : Int32)), .val (.int (3 : Int32)), .val sf] [] := by rcases ref_cases hsf with rfl | ⟨_, rfl⟩ <;> (first | (simp [entryFrame, mkF, argsToLocals, Value.category]; done) | rfl)
set_option maxRecDepth 65536 in
set_option maxHeartbeats 40000000 in
theorem c_chk_1_3p (l : Launch) (Z : State) (a0 : Array Value) (hw : ∀ d ∈ tables_1, d.before a0 Z = true) (sf : Value) (hsf : sf.isRef = true) (h0 : Heap)  :
    Ctr l Z (⟨"jdk/internal/util/Preconditions", "checkIndex", "(IILjava/util/function/BiFunction;)I"⟩ : MethodName) jdk_41_method_11_code 3 (some .int) [] ({ frames := 0, cells := 0, slots := 0, locals := 0 } : Room) #[(.int (1 : Int32)), (.int (3 : Int32)), sf] h0 (Just h0 (.int 1)) := by
  refine Ctr.of (plainFor_of_name pn_6) ?_
  intro p e s m below meth c s₁ hx hby hml hret hown hnm hZ hlk X0 e0
  refine Goes.cast (ef_c_chk_1_3p m sf hsf) ?_
  refine gLoadIN X0 hx (hb hby d_jdk_41_method_11_0) (pc' := 1) rfl rfl ?_
  refine gIfLt X0 hx (hb hby d_jdk_41_method_11_1) (pc' := 9) (by decide) (by decide) (pn := 4) rfl (fun (c1 : (1 : Int) < (0 : Int)) => ?_) (fun (c1 : (0 : Int) ≤ (1 : Int)) => ?_)
  · exact absurd c1 (by decide)
  · refine gLoadIN X0 hx (hb hby d_jdk_41_method_11_4) (pc' := 5) rfl rfl ?_
    refine gLoadIN X0 hx (hb hby d_jdk_41_method_11_5) (pc' := 6) rfl rfl ?_
    refine gIcmpLt X0 hx (hb hby d_jdk_41_method_11_6) (pc' := 16) (by decide) (by decide) (pn := 9) rfl (fun (c6 : (1 : Int) < (3 : Int)) => ?_) (fun (c6 : (3 : Int) ≤ (1 : Int)) => ?_)
    · refine gLoadIN X0 hx (hb hby d_jdk_41_method_11_16) (pc' := 17) rfl rfl ?_
      exact gRetI X0 hx hlk hret (hb hby d_jdk_41_method_11_17) (by decide) (by decide) (⟨rfl, e0, rfl⟩)
    · exact absurd c6 (by decide)
theorem ef_c_chk_1_3 (m : MethodId)  : entryFrame m #[(.int (1 : Int32)), (.int (3 : Int32))] 2 = mkF m 0 #[.val (.int (1 : Int32)), .val (.int (3 : Int32))] [] := by first | (simp [entryFrame, mkF, argsToLocals, Value.category]; done) | rfl
set_option maxRecDepth 65536 in
set_option maxHeartbeats 40000000 in
theorem c_chk_1_3 (l : Launch) (Z : State) (a0 : Array Value) (hw : ∀ d ∈ tables_1, d.before a0 Z = true)  (h0 : Heap) (hSio : Sio Z h0) :
    Ctr l Z (⟨"java/lang/String", "checkIndex", "(II)V"⟩ : MethodName) jdk_42_method_155_code 2 none [] ({ frames := 1, cells := 0, slots := 0, locals := 14 } : Room) #[(.int (1 : Int32)), (.int (3 : Int32))] h0 (fun v h L => v = none ∧ h = h0 ∧ L = []) := by
  refine Ctr.of (plainFor_of_name pn_3) ?_
  intro p e s m below meth c s₁ hx hby hml hret hown hnm hZ hlk X0 e0
  refine Goes.cast (ef_c_chk_1_3 m ) ?_
  obtain ⟨sf, SF, hsf⟩ := hSio
  refine gLoadIN X0 hx (hb hby d_jdk_42_method_155_0) (pc' := 1) rfl rfl ?_
  refine gLoadIN X0 hx (hb hby d_jdk_42_method_155_1) (pc' := 2) rfl rfl ?_
  refine gGetS X0 hx hZ hown (hw _ (List.mem_of_getElem? (i := 69) rfl)) Via.refl e0 SF (hb hby d_jdk_42_method_155_2) (pc' := 5) rfl (fun T1 X1 e1 => ?_)
  refine gCallSJ X1 hx hZ (y := (⟨"jdk/internal/util/Preconditions", "checkIndex", "(IILjava/util/function/BiFunction;)I"⟩ : MethodName)) hown e1 (by rw [hml]; rfl) (hw _ (List.mem_of_getElem? (i := 71) rfl)) (hw _ (List.mem_of_getElem? (i := 72) rfl)) (hw _ (List.mem_of_getElem? (i := 70) rfl)) (hw _ (List.mem_of_getElem? (i := 73) rfl)) (by decide) (argsL := [(.int (1 : Int32)), (.int (3 : Int32)), sf]) (st := []) (c_chk_1_3p l Z a0 hw sf hsf h0) (lenOf pd_7 rfl) (hb hby d_jdk_42_method_155_5) (pc' := 8) rfl rfl rfl rfl (by decide) (W := 0) (Nat.le_of_eq rfl) (by decide) (by decide) (by decide) ?_
  intro T2 X2 e2
  refine gPop X2 hx (hb hby d_jdk_42_method_155_8) (pc' := 9) rfl rfl ?_
  exact gRetV X2 hx hlk hret (hb hby d_jdk_42_method_155_9) (by decide) (by decide) (⟨rfl, e2, rfl⟩)
theorem ef_c_charAt_1_3l (m : MethodId) (t : Addr) : entryFrame m #[(.ref t), (.int (1 : Int32))] 2 = mkF m 0 #[.val (.ref t), .val (.int (1 : Int32))] [] := by first | (simp [entryFrame, mkF, argsToLocals, Value.category]; done) | rfl
set_option maxRecDepth 65536 in
set_option maxHeartbeats 40000000 in
theorem c_charAt_1_3l (l : Launch) (Z : State) (a0 : Array Value) (hw : ∀ d ∈ tables_1, d.before a0 Z = true) (t : Addr) (ck : ClassId) (c0 c1 c2 : Int32) (h0 : Heap) (hSio : Sio Z h0) (A : Arv Z h0 t ck .byte 3 [by8 c0, by8 c1, by8 c2] (.int 0)) (hc0 : 0 ≤ c0.toInt ∧ c0.toInt ≤ 255) (hc1 : 0 ≤ c1.toInt ∧ c1.toInt ≤ 255) (hc2 : 0 ≤ c2.toInt ∧ c2.toInt ≤ 255) :
    Ctr l Z (⟨"java/lang/StringLatin1", "charAt", "([BI)C"⟩ : MethodName) jdk_43_method_2_code 2 (some .char) [] ({ frames := 2, cells := 0, slots := 0, locals := 28 } : Room) #[(.ref t), (.int (1 : Int32))] h0 (Just h0 (.int c1)) := by
  refine Ctr.of (plainFor_of_name pn_4) ?_
  intro p e s m below meth c s₁ hx hby hml hret hown hnm hZ hlk X0 e0
  refine Goes.cast (ef_c_charAt_1_3l m t) ?_
  refine gLoadIN X0 hx (hb hby d_jdk_43_method_2_0) (pc' := 1) rfl rfl ?_
  refine gLoadAN X0 hx (hb hby d_jdk_43_method_2_1) (pc' := 2) rfl rfl rfl ?_
  refine gArrLen X0 hx hZ e0 A (hb hby d_jdk_43_method_2_2) (pc' := 3) rfl ?_
  refine gCallS X0 hx hZ (y := (⟨"java/lang/String", "checkIndex", "(II)V"⟩ : MethodName)) hown e0 (by rw [hml]; rfl) (hw _ (List.mem_of_getElem? (i := 66) rfl)) (hw _ (List.mem_of_getElem? (i := 67) rfl)) (hw _ (List.mem_of_getElem? (i := 4) rfl)) (hw _ (List.mem_of_getElem? (i := 68) rfl)) (by decide) (argsL := [(.int (1 : Int32)), (.int (3 : Int32))]) (st := []) (c_chk_1_3 l Z a0 hw h0 hSio) (lenOf pd_6 rfl) (hb hby d_jdk_43_method_2_3) (pc' := 6) rfl rfl (by decide) (W := 0) (Nat.le_of_eq rfl) (by decide) (by decide) (by decide) ?_
  intro T1 v1 L1 X1 hQ1
  obtain ⟨rfl, eq1, rfl⟩ := hQ1
  rw [List.append_nil] at X1
  refine gLoadAN X1 hx (hb hby d_jdk_43_method_2_6) (pc' := 7) rfl rfl rfl ?_
  refine gLoadIN X1 hx (hb hby d_jdk_43_method_2_7) (pc' := 8) rfl rfl ?_
  refine gBaload X1 hx hZ eq1 A (j := (1 : Int32)) (v := (.int (c1.toInt8.toInt32))) (by decide) (by decide) rfl (hb hby d_jdk_43_method_2_8) (pc' := 9) rfl ?_
  refine gSipush X1 hx (v := (255 : Int32)) (hb hby d_jdk_43_method_2_9) (pc' := 12) rfl rfl ?_
  refine gIand X1 hx (hb hby d_jdk_43_method_2_12) (pc' := 13) rfl ?_
  refine gI2c X1 hx (hb hby d_jdk_43_method_2_13) (pc' := 14) rfl ?_
  rw [own_ch hc1]
  exact gRetN X1 hx hlk hret (by simp) (hb hby d_jdk_43_method_2_14) (w := c1) (own_nc (own_c8 hc1)) (by decide) (by decide) (⟨rfl, eq1, rfl⟩)
theorem ef_c_charAt_1_3 (m : MethodId) (a : Addr) : entryFrame m #[(.ref a), (.int (1 : Int32))] 2 = mkF m 0 #[.val (.ref a), .val (.int (1 : Int32))] [] := by first | (simp [entryFrame, mkF, argsToLocals, Value.category]; done) | rfl
set_option maxRecDepth 65536 in
set_option maxHeartbeats 40000000 in
theorem c_charAt_1_3 (l : Launch) (Z : State) (a0 : Array Value) (hw : ∀ d ∈ tables_1, d.before a0 Z = true) (a t : Addr) (ck : ClassId) (c0 c1 c2 : Int32) (h0 : Heap) (hSio : Sio Z h0) (hCpt : Cpt Z h0) (E : Exa Z h0 a "java/lang/String") (C : Fld Z h0 a "java/lang/String" "coder" "B" (.int 0)) (V : Fld Z h0 a "java/lang/String" "value" "[B" (.ref t)) (A : Arv Z h0 t ck .byte 3 [by8 c0, by8 c1, by8 c2] (.int 0)) (hc0 : 0 ≤ c0.toInt ∧ c0.toInt ≤ 255) (hc1 : 0 ≤ c1.toInt ∧ c1.toInt ≤ 255) (hc2 : 0 ≤ c2.toInt ∧ c2.toInt ≤ 255) :
    Ctr l Z (⟨"java/lang/String", "charAt", "(I)C"⟩ : MethodName) jdk_42_method_56_code 2 (some .char) [] ({ frames := 3, cells := 0, slots := 0, locals := 41 } : Room) #[(.ref a), (.int (1 : Int32))] h0 (Just h0 (.int c1)) := by
  refine Ctr.of (plainFor_of_name pn_3) ?_
  intro p e s m below meth c s₁ hx hby hml hret hown hnm hZ hlk X0 e0
  refine Goes.cast (ef_c_charAt_1_3 m a) ?_
  refine gLoadAN X0 hx (hb hby d_jdk_42_method_56_0) (pc' := 1) rfl rfl rfl ?_
  refine gCallVJ X0 hx hZ (y := (⟨"java/lang/String", "isLatin1", "()Z"⟩ : MethodName)) hown e0 (by rw [hml]; rfl) E (hw _ (List.mem_of_getElem? (i := 57) rfl)) (hw _ (List.mem_of_getElem? (i := 58) rfl)) (hw _ (List.mem_of_getElem? (i := 60) rfl)) (hw _ (List.mem_of_getElem? (i := 59) rfl)) (hw _ (List.mem_of_getElem? (i := 4) rfl)) (hw _ (List.mem_of_getElem? (i := 61) rfl)) (by decide) (argsL := []) (st := []) (c_isLatin1 l Z a0 hw a h0 hCpt C) (lenOf pd_3 rfl) (hb hby d_jdk_42_method_56_1) (pc' := 4) rfl rfl rfl rfl (by decide) (W := 0) (Nat.le_of_eq rfl) (by decide) (by decide) (by decide) ?_
  intro T1 X1 e1
  refine gIfEqT X1 hx (hb hby d_jdk_42_method_56_4) (pc' := 16) (by decide) (by decide) (pn := 7) rfl (fun (c4 : (1 : Int) = (0 : Int)) => ?_) (fun (c4 : ¬ (1 : Int) = (0 : Int)) => ?_)
  · exact absurd c4 (by decide)
  · refine gLoadAN X1 hx (hb hby d_jdk_42_method_56_7) (pc' := 8) rfl rfl rfl ?_
    refine gGetF X1 hx hZ hown (hw _ (List.mem_of_getElem? (i := 21) rfl)) Via.refl e1 V (hb hby d_jdk_42_method_56_8) (pc' := 11) rfl (fun T2 X2 e2 => ?_)
    refine gLoadIN X2 hx (hb hby d_jdk_42_method_56_11) (pc' := 12) rfl rfl ?_
    refine gCallSJ X2 hx hZ (y := (⟨"java/lang/StringLatin1", "charAt", "([BI)C"⟩ : MethodName)) hown e2 (by rw [hml]; rfl) (hw _ (List.mem_of_getElem? (i := 62) rfl)) (hw _ (List.mem_of_getElem? (i := 63) rfl)) (hw _ (List.mem_of_getElem? (i := 64) rfl)) (hw _ (List.mem_of_getElem? (i := 65) rfl)) (by decide) (argsL := [(.ref t), (.int (1 : Int32))]) (st := []) (c_charAt_1_3l l Z a0 hw t ck c0 c1 c2 h0 hSio A hc0 hc1 hc2) (lenOf pd_10 rfl) (hb hby d_jdk_42_method_56_12) (pc' := 15) rfl rfl rfl rfl (by decide) (W := 0) (Nat.le_of_eq rfl) (by decide) (by decide) (by decide) ?_
    intro T3 X3 e3
    exact gRetN X3 hx hlk hret (by simp) (hb hby d_jdk_42_method_56_15) (w := c1) (own_nc (own_c8 hc1)) (by decide) (by decide) (⟨rfl, e3, rfl⟩)
theorem ef_c_chk_2_3p (m : MethodId) (sf : Value) (hsf : sf.isRef = true) : entryFrame m #[(.int (2 : Int32)), (.int (3 : Int32)), sf] 3 = mkF m 0 #[.val (.int (2 : Int32)), .val (.int (3 : Int32)), .val sf] [] := by rcases ref_cases hsf with rfl | ⟨_, rfl⟩ <;> (first | (simp [entryFrame, mkF, argsToLocals, Value.category]; done) | rfl)
set_option maxRecDepth 65536 in
set_option maxHeartbeats 40000000 in
theorem c_chk_2_3p (l : Launch) (Z : State) (a0 : Array Value) (hw : ∀ d ∈ tables_1, d.before a0 Z = true) (sf : Value) (hsf : sf.isRef = true) (h0 : Heap)  :
    Ctr l Z (⟨"jdk/internal/util/Preconditions", "checkIndex", "(IILjava/util/function/BiFunction;)I"⟩ : MethodName) jdk_41_method_11_code 3 (some .int) [] ({ frames := 0, cells := 0, slots := 0, locals := 0 } : Room) #[(.int (2 : Int32)), (.int (3 : Int32)), sf] h0 (Just h0 (.int 2)) := by
  refine Ctr.of (plainFor_of_name pn_6) ?_
  intro p e s m below meth c s₁ hx hby hml hret hown hnm hZ hlk X0 e0
  refine Goes.cast (ef_c_chk_2_3p m sf hsf) ?_
  refine gLoadIN X0 hx (hb hby d_jdk_41_method_11_0) (pc' := 1) rfl rfl ?_
  refine gIfLt X0 hx (hb hby d_jdk_41_method_11_1) (pc' := 9) (by decide) (by decide) (pn := 4) rfl (fun (c1 : (2 : Int) < (0 : Int)) => ?_) (fun (c1 : (0 : Int) ≤ (2 : Int)) => ?_)
  · exact absurd c1 (by decide)
  · refine gLoadIN X0 hx (hb hby d_jdk_41_method_11_4) (pc' := 5) rfl rfl ?_
    refine gLoadIN X0 hx (hb hby d_jdk_41_method_11_5) (pc' := 6) rfl rfl ?_
    refine gIcmpLt X0 hx (hb hby d_jdk_41_method_11_6) (pc' := 16) (by decide) (by decide) (pn := 9) rfl (fun (c6 : (2 : Int) < (3 : Int)) => ?_) (fun (c6 : (3 : Int) ≤ (2 : Int)) => ?_)
    · refine gLoadIN X0 hx (hb hby d_jdk_41_method_11_16) (pc' := 17) rfl rfl ?_
      exact gRetI X0 hx hlk hret (hb hby d_jdk_41_method_11_17) (by decide) (by decide) (⟨rfl, e0, rfl⟩)
    · exact absurd c6 (by decide)
theorem ef_c_chk_2_3 (m : MethodId)  : entryFrame m #[(.int (2 : Int32)), (.int (3 : Int32))] 2 = mkF m 0 #[.val (.int (2 : Int32)), .val (.int (3 : Int32))] [] := by first | (simp [entryFrame, mkF, argsToLocals, Value.category]; done) | rfl
set_option maxRecDepth 65536 in
set_option maxHeartbeats 40000000 in
theorem c_chk_2_3 (l : Launch) (Z : State) (a0 : Array Value) (hw : ∀ d ∈ tables_1, d.before a0 Z = true)  (h0 : Heap) (hSio : Sio Z h0) :
    Ctr l Z (⟨"java/lang/String", "checkIndex", "(II)V"⟩ : MethodName) jdk_42_method_155_code 2 none [] ({ frames := 1, cells := 0, slots := 0, locals := 14 } : Room) #[(.int (2 : Int32)), (.int (3 : Int32))] h0 (fun v h L => v = none ∧ h = h0 ∧ L = []) := by
  refine Ctr.of (plainFor_of_name pn_3) ?_
  intro p e s m below meth c s₁ hx hby hml hret hown hnm hZ hlk X0 e0
  refine Goes.cast (ef_c_chk_2_3 m ) ?_
  obtain ⟨sf, SF, hsf⟩ := hSio
  refine gLoadIN X0 hx (hb hby d_jdk_42_method_155_0) (pc' := 1) rfl rfl ?_
  refine gLoadIN X0 hx (hb hby d_jdk_42_method_155_1) (pc' := 2) rfl rfl ?_
  refine gGetS X0 hx hZ hown (hw _ (List.mem_of_getElem? (i := 69) rfl)) Via.refl e0 SF (hb hby d_jdk_42_method_155_2) (pc' := 5) rfl (fun T1 X1 e1 => ?_)
  refine gCallSJ X1 hx hZ (y := (⟨"jdk/internal/util/Preconditions", "checkIndex", "(IILjava/util/function/BiFunction;)I"⟩ : MethodName)) hown e1 (by rw [hml]; rfl) (hw _ (List.mem_of_getElem? (i := 71) rfl)) (hw _ (List.mem_of_getElem? (i := 72) rfl)) (hw _ (List.mem_of_getElem? (i := 70) rfl)) (hw _ (List.mem_of_getElem? (i := 73) rfl)) (by decide) (argsL := [(.int (2 : Int32)), (.int (3 : Int32)), sf]) (st := []) (c_chk_2_3p l Z a0 hw sf hsf h0) (lenOf pd_7 rfl) (hb hby d_jdk_42_method_155_5) (pc' := 8) rfl rfl rfl rfl (by decide) (W := 0) (Nat.le_of_eq rfl) (by decide) (by decide) (by decide) ?_
  intro T2 X2 e2
  refine gPop X2 hx (hb hby d_jdk_42_method_155_8) (pc' := 9) rfl rfl ?_
  exact gRetV X2 hx hlk hret (hb hby d_jdk_42_method_155_9) (by decide) (by decide) (⟨rfl, e2, rfl⟩)
theorem ef_c_charAt_2_3l (m : MethodId) (t : Addr) : entryFrame m #[(.ref t), (.int (2 : Int32))] 2 = mkF m 0 #[.val (.ref t), .val (.int (2 : Int32))] [] := by first | (simp [entryFrame, mkF, argsToLocals, Value.category]; done) | rfl
set_option maxRecDepth 65536 in
set_option maxHeartbeats 40000000 in
theorem c_charAt_2_3l (l : Launch) (Z : State) (a0 : Array Value) (hw : ∀ d ∈ tables_1, d.before a0 Z = true) (t : Addr) (ck : ClassId) (c0 c1 c2 : Int32) (h0 : Heap) (hSio : Sio Z h0) (A : Arv Z h0 t ck .byte 3 [by8 c0, by8 c1, by8 c2] (.int 0)) (hc0 : 0 ≤ c0.toInt ∧ c0.toInt ≤ 255) (hc1 : 0 ≤ c1.toInt ∧ c1.toInt ≤ 255) (hc2 : 0 ≤ c2.toInt ∧ c2.toInt ≤ 255) :
    Ctr l Z (⟨"java/lang/StringLatin1", "charAt", "([BI)C"⟩ : MethodName) jdk_43_method_2_code 2 (some .char) [] ({ frames := 2, cells := 0, slots := 0, locals := 28 } : Room) #[(.ref t), (.int (2 : Int32))] h0 (Just h0 (.int c2)) := by
  refine Ctr.of (plainFor_of_name pn_4) ?_
  intro p e s m below meth c s₁ hx hby hml hret hown hnm hZ hlk X0 e0
  refine Goes.cast (ef_c_charAt_2_3l m t) ?_
  refine gLoadIN X0 hx (hb hby d_jdk_43_method_2_0) (pc' := 1) rfl rfl ?_
  refine gLoadAN X0 hx (hb hby d_jdk_43_method_2_1) (pc' := 2) rfl rfl rfl ?_
  refine gArrLen X0 hx hZ e0 A (hb hby d_jdk_43_method_2_2) (pc' := 3) rfl ?_
  refine gCallS X0 hx hZ (y := (⟨"java/lang/String", "checkIndex", "(II)V"⟩ : MethodName)) hown e0 (by rw [hml]; rfl) (hw _ (List.mem_of_getElem? (i := 66) rfl)) (hw _ (List.mem_of_getElem? (i := 67) rfl)) (hw _ (List.mem_of_getElem? (i := 4) rfl)) (hw _ (List.mem_of_getElem? (i := 68) rfl)) (by decide) (argsL := [(.int (2 : Int32)), (.int (3 : Int32))]) (st := []) (c_chk_2_3 l Z a0 hw h0 hSio) (lenOf pd_6 rfl) (hb hby d_jdk_43_method_2_3) (pc' := 6) rfl rfl (by decide) (W := 0) (Nat.le_of_eq rfl) (by decide) (by decide) (by decide) ?_
  intro T1 v1 L1 X1 hQ1
  obtain ⟨rfl, eq1, rfl⟩ := hQ1
  rw [List.append_nil] at X1
  refine gLoadAN X1 hx (hb hby d_jdk_43_method_2_6) (pc' := 7) rfl rfl rfl ?_
  refine gLoadIN X1 hx (hb hby d_jdk_43_method_2_7) (pc' := 8) rfl rfl ?_
  refine gBaload X1 hx hZ eq1 A (j := (2 : Int32)) (v := (.int (c2.toInt8.toInt32))) (by decide) (by decide) rfl (hb hby d_jdk_43_method_2_8) (pc' := 9) rfl ?_
  refine gSipush X1 hx (v := (255 : Int32)) (hb hby d_jdk_43_method_2_9) (pc' := 12) rfl rfl ?_
  refine gIand X1 hx (hb hby d_jdk_43_method_2_12) (pc' := 13) rfl ?_
  refine gI2c X1 hx (hb hby d_jdk_43_method_2_13) (pc' := 14) rfl ?_
  rw [own_ch hc2]
  exact gRetN X1 hx hlk hret (by simp) (hb hby d_jdk_43_method_2_14) (w := c2) (own_nc (own_c8 hc2)) (by decide) (by decide) (⟨rfl, eq1, rfl⟩)
theorem ef_c_charAt_2_3 (m : MethodId) (a : Addr) : entryFrame m #[(.ref a), (.int (2 : Int32))] 2 = mkF m 0 #[.val (.ref a), .val (.int (2 : Int32))] [] := by first | (simp [entryFrame, mkF, argsToLocals, Value.category]; done) | rfl
set_option maxRecDepth 65536 in
set_option maxHeartbeats 40000000 in
theorem c_charAt_2_3 (l : Launch) (Z : State) (a0 : Array Value) (hw : ∀ d ∈ tables_1, d.before a0 Z = true) (a t : Addr) (ck : ClassId) (c0 c1 c2 : Int32) (h0 : Heap) (hSio : Sio Z h0) (hCpt : Cpt Z h0) (E : Exa Z h0 a "java/lang/String") (C : Fld Z h0 a "java/lang/String" "coder" "B" (.int 0)) (V : Fld Z h0 a "java/lang/String" "value" "[B" (.ref t)) (A : Arv Z h0 t ck .byte 3 [by8 c0, by8 c1, by8 c2] (.int 0)) (hc0 : 0 ≤ c0.toInt ∧ c0.toInt ≤ 255) (hc1 : 0 ≤ c1.toInt ∧ c1.toInt ≤ 255) (hc2 : 0 ≤ c2.toInt ∧ c2.toInt ≤ 255) :
    Ctr l Z (⟨"java/lang/String", "charAt", "(I)C"⟩ : MethodName) jdk_42_method_56_code 2 (some .char) [] ({ frames := 3, cells := 0, slots := 0, locals := 41 } : Room) #[(.ref a), (.int (2 : Int32))] h0 (Just h0 (.int c2)) := by
  refine Ctr.of (plainFor_of_name pn_3) ?_
  intro p e s m below meth c s₁ hx hby hml hret hown hnm hZ hlk X0 e0
  refine Goes.cast (ef_c_charAt_2_3 m a) ?_
  refine gLoadAN X0 hx (hb hby d_jdk_42_method_56_0) (pc' := 1) rfl rfl rfl ?_
  refine gCallVJ X0 hx hZ (y := (⟨"java/lang/String", "isLatin1", "()Z"⟩ : MethodName)) hown e0 (by rw [hml]; rfl) E (hw _ (List.mem_of_getElem? (i := 57) rfl)) (hw _ (List.mem_of_getElem? (i := 58) rfl)) (hw _ (List.mem_of_getElem? (i := 60) rfl)) (hw _ (List.mem_of_getElem? (i := 59) rfl)) (hw _ (List.mem_of_getElem? (i := 4) rfl)) (hw _ (List.mem_of_getElem? (i := 61) rfl)) (by decide) (argsL := []) (st := []) (c_isLatin1 l Z a0 hw a h0 hCpt C) (lenOf pd_3 rfl) (hb hby d_jdk_42_method_56_1) (pc' := 4) rfl rfl rfl rfl (by decide) (W := 0) (Nat.le_of_eq rfl) (by decide) (by decide) (by decide) ?_
  intro T1 X1 e1
  refine gIfEqT X1 hx (hb hby d_jdk_42_method_56_4) (pc' := 16) (by decide) (by decide) (pn := 7) rfl (fun (c4 : (1 : Int) = (0 : Int)) => ?_) (fun (c4 : ¬ (1 : Int) = (0 : Int)) => ?_)
  · exact absurd c4 (by decide)
  · refine gLoadAN X1 hx (hb hby d_jdk_42_method_56_7) (pc' := 8) rfl rfl rfl ?_
    refine gGetF X1 hx hZ hown (hw _ (List.mem_of_getElem? (i := 21) rfl)) Via.refl e1 V (hb hby d_jdk_42_method_56_8) (pc' := 11) rfl (fun T2 X2 e2 => ?_)
    refine gLoadIN X2 hx (hb hby d_jdk_42_method_56_11) (pc' := 12) rfl rfl ?_
    refine gCallSJ X2 hx hZ (y := (⟨"java/lang/StringLatin1", "charAt", "([BI)C"⟩ : MethodName)) hown e2 (by rw [hml]; rfl) (hw _ (List.mem_of_getElem? (i := 62) rfl)) (hw _ (List.mem_of_getElem? (i := 63) rfl)) (hw _ (List.mem_of_getElem? (i := 64) rfl)) (hw _ (List.mem_of_getElem? (i := 65) rfl)) (by decide) (argsL := [(.ref t), (.int (2 : Int32))]) (st := []) (c_charAt_2_3l l Z a0 hw t ck c0 c1 c2 h0 hSio A hc0 hc1 hc2) (lenOf pd_10 rfl) (hb hby d_jdk_42_method_56_12) (pc' := 15) rfl rfl rfl rfl (by decide) (W := 0) (Nat.le_of_eq rfl) (by decide) (by decide) (by decide) ?_
    intro T3 X3 e3
    exact gRetN X3 hx hlk hret (by simp) (hb hby d_jdk_42_method_56_15) (w := c2) (own_nc (own_c8 hc2)) (by decide) (by decide) (⟨rfl, e3, rfl⟩)
theorem ef_c_fv_3 (m : MethodId) (a : Addr) : entryFrame m #[(.ref a)] 4 = mkF m 0 #[.val (.ref a), .unset, .unset, .unset] [] := by first | (simp [entryFrame, mkF, argsToLocals, Value.category]; done) | rfl
set_option maxRecDepth 65536 in
set_option maxHeartbeats 40000000 in
theorem c_fv_3 (l : Launch) (Z : State) (a0 : Array Value) (hw : ∀ d ∈ tables_1, d.before a0 Z = true) (a t : Addr) (ck : ClassId) (c0 c1 c2 : Int32) (h0 : Heap) (hSio : Sio Z h0) (hCpt : Cpt Z h0) (E : Exa Z h0 a "java/lang/String") (C : Fld Z h0 a "java/lang/String" "coder" "B" (.int 0)) (V : Fld Z h0 a "java/lang/String" "value" "[B" (.ref t)) (A : Arv Z h0 t ck .byte 3 [by8 c0, by8 c1, by8 c2] (.int 0)) (hc0 : 0 ≤ c0.toInt ∧ c0.toInt ≤ 255) (hc1 : 0 ≤ c1.toInt ∧ c1.toInt ≤ 255) (hc2 : 0 ≤ c2.toInt ∧ c2.toInt ≤ 255) :
    Ctr l Z (⟨"com/example/anteroom/anteroom/HttpSyntax", "isFieldValue", "(Ljava/lang/String;)Z"⟩ : MethodName) prog_7_method_12_code 4 (some .boolean) [] ({ frames := 4, cells := 0, slots := 0, locals := 56 } : Room) #[(.ref a)] h0 (Just h0 (.int (b2i (decide ((c0.toInt = 9 ∨ 32 ≤ c0.toInt ∧ c0.toInt ≠ 127) ∧ (c1.toInt = 9 ∨ 32 ≤ c1.toInt ∧ c1.toInt ≠ 127) ∧ (c2.toInt = 9 ∨ 32 ≤ c2.toInt ∧ c2.toInt ≠ 127)))))) := by
  refine Ctr.of (plainFor_of_name pn_0) ?_
  intro p e s m below meth c s₁ hx hby hml hret hown hnm hZ hlk X0 e0
  refine Goes.cast (ef_c_fv_3 m a) ?_
  refine gIconst X0 hx (v := (1 : Int32)) (hb hby d_prog_7_method_12_0) (pc' := 1) rfl rfl ?_
  refine gStoreIN X0 hx (hb hby d_prog_7_method_12_1) (l' := #[.val (.ref a), .val (.int (1 : Int32)), .unset, .unset]) (pc' := 2) rfl rfl ?_
  refine gIconst X0 hx (v := (0 : Int32)) (hb hby d_prog_7_method_12_2) (pc' := 3) rfl rfl ?_
  refine gStoreIN X0 hx (hb hby d_prog_7_method_12_3) (l' := #[.val (.ref a), .val (.int (1 : Int32)), .val (.int (0 : Int32)), .unset]) (pc' := 4) rfl rfl ?_
  refine gLoadIN X0 hx (hb hby d_prog_7_method_12_4) (pc' := 5) rfl rfl ?_
  refine gLoadAN X0 hx (hb hby d_prog_7_method_12_5) (pc' := 6) rfl rfl rfl ?_
  refine gCallVJ X0 hx hZ (y := (⟨"java/lang/String", "length", "()I"⟩ : MethodName)) hown e0 (by rw [hml]; rfl) E (hw _ (List.mem_of_getElem? (i := 27) rfl)) (hw _ (List.mem_of_getElem? (i := 28) rfl)) (hw _ (List.mem_of_getElem? (i := 30) rfl)) (hw _ (List.mem_of_getElem? (i := 29) rfl)) (hw _ (List.mem_of_getElem? (i := 4) rfl)) (hw _ (List.mem_of_getElem? (i := 31) rfl)) (by decide) (argsL := []) (st := [(.int (0 : Int32))]) (c_length_3 l Z a0 hw a t ck c0 c1 c2 h0 hCpt E C V A hc0 hc1 hc2) (lenOf pd_1 rfl) (hb hby d_prog_7_method_12_6) (pc' := 9) rfl rfl rfl rfl (by decide) (W := 1) (Nat.le_of_eq rfl) (by decide) (by decide) (by decide) ?_
  intro T1 X1 e1
  refine gIcmpGe X1 hx (hb hby d_prog_7_method_12_9) (pc' := 52) (by decide) (by decide) (pn := 12) rfl (fun (c9 : (3 : Int) ≤ (0 : Int)) => ?_) (fun (c9 : (0 : Int) < (3 : Int)) => ?_)
  · exact absurd c9 (by decide)
  · refine gLoadAN X1 hx (hb hby d_prog_7_method_12_12) (pc' := 13) rfl rfl rfl ?_
    refine gLoadIN X1 hx (hb hby d_prog_7_method_12_13) (pc' := 14) rfl rfl ?_
    refine gCallVJ X1 hx hZ (y := (⟨"java/lang/String", "charAt", "(I)C"⟩ : MethodName)) hown e1 (by rw [hml]; rfl) E (hw _ (List.mem_of_getElem? (i := 52) rfl)) (hw _ (List.mem_of_getElem? (i := 53) rfl)) (hw _ (List.mem_of_getElem? (i := 55) rfl)) (hw _ (List.mem_of_getElem? (i := 54) rfl)) (hw _ (List.mem_of_getElem? (i := 4) rfl)) (hw _ (List.mem_of_getElem? (i := 56) rfl)) (by decide) (argsL := [(.int (0 : Int32))]) (st := []) (c_charAt_0_3 l Z a0 hw a t ck c0 c1 c2 h0 hSio hCpt E C V A hc0 hc1 hc2) (lenOf pd_5 rfl) (hb hby d_prog_7_method_12_14) (pc' := 17) rfl rfl rfl rfl (by decide) (W := 0) (Nat.le_of_eq rfl) (by decide) (by decide) (by decide) ?_
    intro T2 X2 e2
    refine gStoreIN X2 hx (hb hby d_prog_7_method_12_17) (l' := #[.val (.ref a), .val (.int (1 : Int32)), .val (.int (0 : Int32)), .val (.int c0)]) (pc' := 18) rfl rfl ?_
    refine gLoadIN X2 hx (hb hby d_prog_7_method_12_18) (pc' := 19) rfl rfl ?_
    refine gIfEqT X2 hx (hb hby d_prog_7_method_12_19) (pc' := 44) (by decide) (by decide) (pn := 22) rfl (fun (c19 : (1 : Int) = (0 : Int)) => ?_) (fun (c19 : ¬ (1 : Int) = (0 : Int)) => ?_)
    · exact absurd c19 (by decide)
    · refine gLoadIN X2 hx (hb hby d_prog_7_method_12_22) (pc' := 23) rfl rfl ?_
      refine gBipush X2 hx (v := (32 : Int32)) (hb hby d_prog_7_method_12_23) (pc' := 25) rfl rfl ?_
      refine gIcmpGe X2 hx (hb hby d_prog_7_method_12_25) (pc' := 34) (by decide) (by decide) (pn := 28) rfl (fun (c25 : (32 : Int) ≤ c0.toInt) => ?_) (fun (c25 : c0.toInt < (32 : Int)) => ?_)
      · refine gLoadIN X2 hx (hb hby d_prog_7_method_12_34) (pc' := 35) rfl rfl ?_
        refine gBipush X2 hx (v := (127 : Int32)) (hb hby d_prog_7_method_12_35) (pc' := 37) rfl rfl ?_
        refine gIcmpEqT X2 hx (hb hby d_prog_7_method_12_37) (pc' := 44) (by decide) (by decide) (pn := 40) rfl (fun (c37 : c0.toInt = (127 : Int)) => ?_) (fun (c37 : ¬ c0.toInt = (127 : Int)) => ?_)
        · refine gIconst X2 hx (v := (0 : Int32)) (hb hby d_prog_7_method_12_44) (pc' := 45) rfl rfl ?_
          refine gStoreIN X2 hx (hb hby d_prog_7_method_12_45) (l' := #[.val (.ref a), .val (.int (0 : Int32)), .val (.int (0 : Int32)), .val (.int c0)]) (pc' := 46) rfl rfl ?_
          refine gIinc X2 hx (v := (1 : Int32)) (hb hby d_prog_7_method_12_46) (l' := #[.val (.ref a), .val (.int (0 : Int32)), .val (.int (1 : Int32)), .val (.int c0)]) (pc' := 49) rfl rfl rfl rfl ?_
          refine gGoto X2 hx (hb hby d_prog_7_method_12_49) (pc' := 4) (by decide) (by decide) ?_
          refine gLoadIN X2 hx (hb hby d_prog_7_method_12_4) (pc' := 5) rfl rfl ?_
          refine gLoadAN X2 hx (hb hby d_prog_7_method_12_5) (pc' := 6) rfl rfl rfl ?_
          refine gCallVJ X2 hx hZ (y := (⟨"java/lang/String", "length", "()I"⟩ : MethodName)) hown e2 (by rw [hml]; rfl) E (hw _ (List.mem_of_getElem? (i := 27) rfl)) (hw _ (List.mem_of_getElem? (i := 28) rfl)) (hw _ (List.mem_of_getElem? (i := 30) rfl)) (hw _ (List.mem_of_getElem? (i := 29) rfl)) (hw _ (List.mem_of_getElem? (i := 4) rfl)) (hw _ (List.mem_of_getElem? (i := 31) rfl)) (by decide) (argsL := []) (st := [(.int (1 : Int32))]) (c_length_3 l Z a0 hw a t ck c0 c1 c2 h0 hCpt E C V A hc0 hc1 hc2) (lenOf pd_1 rfl) (hb hby d_prog_7_method_12_6) (pc' := 9) rfl rfl rfl rfl (by decide) (W := 1) (Nat.le_of_eq rfl) (by decide) (by decide) (by decide) ?_
          intro T3 X3 e3
          refine gIcmpGe X3 hx (hb hby d_prog_7_method_12_9) (pc' := 52) (by decide) (by decide) (pn := 12) rfl (fun (c9' : (3 : Int) ≤ (1 : Int)) => ?_) (fun (c9' : (1 : Int) < (3 : Int)) => ?_)
          · exact absurd c9' (by decide)
          · refine gLoadAN X3 hx (hb hby d_prog_7_method_12_12) (pc' := 13) rfl rfl rfl ?_
            refine gLoadIN X3 hx (hb hby d_prog_7_method_12_13) (pc' := 14) rfl rfl ?_
            refine gCallVJ X3 hx hZ (y := (⟨"java/lang/String", "charAt", "(I)C"⟩ : MethodName)) hown e3 (by rw [hml]; rfl) E (hw _ (List.mem_of_getElem? (i := 52) rfl)) (hw _ (List.mem_of_getElem? (i := 53) rfl)) (hw _ (List.mem_of_getElem? (i := 55) rfl)) (hw _ (List.mem_of_getElem? (i := 54) rfl)) (hw _ (List.mem_of_getElem? (i := 4) rfl)) (hw _ (List.mem_of_getElem? (i := 56) rfl)) (by decide) (argsL := [(.int (1 : Int32))]) (st := []) (c_charAt_1_3 l Z a0 hw a t ck c0 c1 c2 h0 hSio hCpt E C V A hc0 hc1 hc2) (lenOf pd_5 rfl) (hb hby d_prog_7_method_12_14) (pc' := 17) rfl rfl rfl rfl (by decide) (W := 0) (Nat.le_of_eq rfl) (by decide) (by decide) (by decide) ?_
            intro T4 X4 e4
            refine gStoreIN X4 hx (hb hby d_prog_7_method_12_17) (l' := #[.val (.ref a), .val (.int (0 : Int32)), .val (.int (1 : Int32)), .val (.int c1)]) (pc' := 18) rfl rfl ?_
            refine gLoadIN X4 hx (hb hby d_prog_7_method_12_18) (pc' := 19) rfl rfl ?_
            refine gIfEqT X4 hx (hb hby d_prog_7_method_12_19) (pc' := 44) (by decide) (by decide) (pn := 22) rfl (fun (c19' : (0 : Int) = (0 : Int)) => ?_) (fun (c19' : ¬ (0 : Int) = (0 : Int)) => ?_)
            · refine gIconst X4 hx (v := (0 : Int32)) (hb hby d_prog_7_method_12_44) (pc' := 45) rfl rfl ?_
              refine gStoreIN X4 hx (hb hby d_prog_7_method_12_45) (l' := #[.val (.ref a), .val (.int (0 : Int32)), .val (.int (1 : Int32)), .val (.int c1)]) (pc' := 46) rfl rfl ?_
              refine gIinc X4 hx (v := (1 : Int32)) (hb hby d_prog_7_method_12_46) (l' := #[.val (.ref a), .val (.int (0 : Int32)), .val (.int (2 : Int32)), .val (.int c1)]) (pc' := 49) rfl rfl rfl rfl ?_
              refine gGoto X4 hx (hb hby d_prog_7_method_12_49) (pc' := 4) (by decide) (by decide) ?_
              refine gLoadIN X4 hx (hb hby d_prog_7_method_12_4) (pc' := 5) rfl rfl ?_
              refine gLoadAN X4 hx (hb hby d_prog_7_method_12_5) (pc' := 6) rfl rfl rfl ?_
              refine gCallVJ X4 hx hZ (y := (⟨"java/lang/String", "length", "()I"⟩ : MethodName)) hown e4 (by rw [hml]; rfl) E (hw _ (List.mem_of_getElem? (i := 27) rfl)) (hw _ (List.mem_of_getElem? (i := 28) rfl)) (hw _ (List.mem_of_getElem? (i := 30) rfl)) (hw _ (List.mem_of_getElem? (i := 29) rfl)) (hw _ (List.mem_of_getElem? (i := 4) rfl)) (hw _ (List.mem_of_getElem? (i := 31) rfl)) (by decide) (argsL := []) (st := [(.int (2 : Int32))]) (c_length_3 l Z a0 hw a t ck c0 c1 c2 h0 hCpt E C V A hc0 hc1 hc2) (lenOf pd_1 rfl) (hb hby d_prog_7_method_12_6) (pc' := 9) rfl rfl rfl rfl (by decide) (W := 1) (Nat.le_of_eq rfl) (by decide) (by decide) (by decide) ?_
              intro T5 X5 e5
              refine gIcmpGe X5 hx (hb hby d_prog_7_method_12_9) (pc' := 52) (by decide) (by decide) (pn := 12) rfl (fun (c9'' : (3 : Int) ≤ (2 : Int)) => ?_) (fun (c9'' : (2 : Int) < (3 : Int)) => ?_)
              · exact absurd c9'' (by decide)
              · refine gLoadAN X5 hx (hb hby d_prog_7_method_12_12) (pc' := 13) rfl rfl rfl ?_
                refine gLoadIN X5 hx (hb hby d_prog_7_method_12_13) (pc' := 14) rfl rfl ?_
                refine gCallVJ X5 hx hZ (y := (⟨"java/lang/String", "charAt", "(I)C"⟩ : MethodName)) hown e5 (by rw [hml]; rfl) E (hw _ (List.mem_of_getElem? (i := 52) rfl)) (hw _ (List.mem_of_getElem? (i := 53) rfl)) (hw _ (List.mem_of_getElem? (i := 55) rfl)) (hw _ (List.mem_of_getElem? (i := 54) rfl)) (hw _ (List.mem_of_getElem? (i := 4) rfl)) (hw _ (List.mem_of_getElem? (i := 56) rfl)) (by decide) (argsL := [(.int (2 : Int32))]) (st := []) (c_charAt_2_3 l Z a0 hw a t ck c0 c1 c2 h0 hSio hCpt E C V A hc0 hc1 hc2) (lenOf pd_5 rfl) (hb hby d_prog_7_method_12_14) (pc' := 17) rfl rfl rfl rfl (by decide) (W := 0) (Nat.le_of_eq rfl) (by decide) (by decide) (by decide) ?_
                intro T6 X6 e6
                refine gStoreIN X6 hx (hb hby d_prog_7_method_12_17) (l' := #[.val (.ref a), .val (.int (0 : Int32)), .val (.int (2 : Int32)), .val (.int c2)]) (pc' := 18) rfl rfl ?_
                refine gLoadIN X6 hx (hb hby d_prog_7_method_12_18) (pc' := 19) rfl rfl ?_
                refine gIfEqT X6 hx (hb hby d_prog_7_method_12_19) (pc' := 44) (by decide) (by decide) (pn := 22) rfl (fun (c19'' : (0 : Int) = (0 : Int)) => ?_) (fun (c19'' : ¬ (0 : Int) = (0 : Int)) => ?_)
                · refine gIconst X6 hx (v := (0 : Int32)) (hb hby d_prog_7_method_12_44) (pc' := 45) rfl rfl ?_
                  refine gStoreIN X6 hx (hb hby d_prog_7_method_12_45) (l' := #[.val (.ref a), .val (.int (0 : Int32)), .val (.int (2 : Int32)), .val (.int c2)]) (pc' := 46) rfl rfl ?_
                  refine gIinc X6 hx (v := (1 : Int32)) (hb hby d_prog_7_method_12_46) (l' := #[.val (.ref a), .val (.int (0 : Int32)), .val (.int (3 : Int32)), .val (.int c2)]) (pc' := 49) rfl rfl rfl rfl ?_
                  refine gGoto X6 hx (hb hby d_prog_7_method_12_49) (pc' := 4) (by decide) (by decide) ?_
                  refine gLoadIN X6 hx (hb hby d_prog_7_method_12_4) (pc' := 5) rfl rfl ?_
                  refine gLoadAN X6 hx (hb hby d_prog_7_method_12_5) (pc' := 6) rfl rfl rfl ?_
                  refine gCallVJ X6 hx hZ (y := (⟨"java/lang/String", "length", "()I"⟩ : MethodName)) hown e6 (by rw [hml]; rfl) E (hw _ (List.mem_of_getElem? (i := 27) rfl)) (hw _ (List.mem_of_getElem? (i := 28) rfl)) (hw _ (List.mem_of_getElem? (i := 30) rfl)) (hw _ (List.mem_of_getElem? (i := 29) rfl)) (hw _ (List.mem_of_getElem? (i := 4) rfl)) (hw _ (List.mem_of_getElem? (i := 31) rfl)) (by decide) (argsL := []) (st := [(.int (3 : Int32))]) (c_length_3 l Z a0 hw a t ck c0 c1 c2 h0 hCpt E C V A hc0 hc1 hc2) (lenOf pd_1 rfl) (hb hby d_prog_7_method_12_6) (pc' := 9) rfl rfl rfl rfl (by decide) (W := 1) (Nat.le_of_eq rfl) (by decide) (by decide) (by decide) ?_
                  intro T7 X7 e7
                  refine gIcmpGe X7 hx (hb hby d_prog_7_method_12_9) (pc' := 52) (by decide) (by decide) (pn := 12) rfl (fun (c9''' : (3 : Int) ≤ (3 : Int)) => ?_) (fun (c9''' : (3 : Int) < (3 : Int)) => ?_)
                  · refine gLoadIN X7 hx (hb hby d_prog_7_method_12_52) (pc' := 53) rfl rfl ?_
                    exact gRetN X7 hx hlk hret (by simp) (hb hby d_prog_7_method_12_53) (w := (0 : Int32)) rfl (by decide) (by decide) (just_f (by omega) e7)
                  · exact absurd c9''' (by decide)
                · exact absurd c19'' (by decide)
            · exact absurd c19' (by decide)
        · refine gIconst X2 hx (v := (1 : Int32)) (hb hby d_prog_7_method_12_40) (pc' := 41) rfl rfl ?_
          refine gGoto X2 hx (hb hby d_prog_7_method_12_41) (pc' := 45) (by decide) (by decide) ?_
          refine gStoreIN X2 hx (hb hby d_prog_7_method_12_45) (l' := #[.val (.ref a), .val (.int (1 : Int32)), .val (.int (0 : Int32)), .val (.int c0)]) (pc' := 46) rfl rfl ?_
          refine gIinc X2 hx (v := (1 : Int32)) (hb hby d_prog_7_method_12_46) (l' := #[.val (.ref a), .val (.int (1 : Int32)), .val (.int (1 : Int32)), .val (.int c0)]) (pc' := 49) rfl rfl rfl rfl ?_
          refine gGoto X2 hx (hb hby d_prog_7_method_12_49) (pc' := 4) (by decide) (by decide) ?_
          refine gLoadIN X2 hx (hb hby d_prog_7_method_12_4) (pc' := 5) rfl rfl ?_
          refine gLoadAN X2 hx (hb hby d_prog_7_method_12_5) (pc' := 6) rfl rfl rfl ?_
          refine gCallVJ X2 hx hZ (y := (⟨"java/lang/String", "length", "()I"⟩ : MethodName)) hown e2 (by rw [hml]; rfl) E (hw _ (List.mem_of_getElem? (i := 27) rfl)) (hw _ (List.mem_of_getElem? (i := 28) rfl)) (hw _ (List.mem_of_getElem? (i := 30) rfl)) (hw _ (List.mem_of_getElem? (i := 29) rfl)) (hw _ (List.mem_of_getElem? (i := 4) rfl)) (hw _ (List.mem_of_getElem? (i := 31) rfl)) (by decide) (argsL := []) (st := [(.int (1 : Int32))]) (c_length_3 l Z a0 hw a t ck c0 c1 c2 h0 hCpt E C V A hc0 hc1 hc2) (lenOf pd_1 rfl) (hb hby d_prog_7_method_12_6) (pc' := 9) rfl rfl rfl rfl (by decide) (W := 1) (Nat.le_of_eq rfl) (by decide) (by decide) (by decide) ?_
          intro T8 X8 e8
          refine gIcmpGe X8 hx (hb hby d_prog_7_method_12_9) (pc' := 52) (by decide) (by decide) (pn := 12) rfl (fun (c9' : (3 : Int) ≤ (1 : Int)) => ?_) (fun (c9' : (1 : Int) < (3 : Int)) => ?_)
          · exact absurd c9' (by decide)
          · refine gLoadAN X8 hx (hb hby d_prog_7_method_12_12) (pc' := 13) rfl rfl rfl ?_
            refine gLoadIN X8 hx (hb hby d_prog_7_method_12_13) (pc' := 14) rfl rfl ?_
            refine gCallVJ X8 hx hZ (y := (⟨"java/lang/String", "charAt", "(I)C"⟩ : MethodName)) hown e8 (by rw [hml]; rfl) E (hw _ (List.mem_of_getElem? (i := 52) rfl)) (hw _ (List.mem_of_getElem? (i := 53) rfl)) (hw _ (List.mem_of_getElem? (i := 55) rfl)) (hw _ (List.mem_of_getElem? (i := 54) rfl)) (hw _ (List.mem_of_getElem? (i := 4) rfl)) (hw _ (List.mem_of_getElem? (i := 56) rfl)) (by decide) (argsL := [(.int (1 : Int32))]) (st := []) (c_charAt_1_3 l Z a0 hw a t ck c0 c1 c2 h0 hSio hCpt E C V A hc0 hc1 hc2) (lenOf pd_5 rfl) (hb hby d_prog_7_method_12_14) (pc' := 17) rfl rfl rfl rfl (by decide) (W := 0) (Nat.le_of_eq rfl) (by decide) (by decide) (by decide) ?_
            intro T9 X9 e9
            refine gStoreIN X9 hx (hb hby d_prog_7_method_12_17) (l' := #[.val (.ref a), .val (.int (1 : Int32)), .val (.int (1 : Int32)), .val (.int c1)]) (pc' := 18) rfl rfl ?_
            refine gLoadIN X9 hx (hb hby d_prog_7_method_12_18) (pc' := 19) rfl rfl ?_
            refine gIfEqT X9 hx (hb hby d_prog_7_method_12_19) (pc' := 44) (by decide) (by decide) (pn := 22) rfl (fun (c19' : (1 : Int) = (0 : Int)) => ?_) (fun (c19' : ¬ (1 : Int) = (0 : Int)) => ?_)
            · exact absurd c19' (by decide)
            · refine gLoadIN X9 hx (hb hby d_prog_7_method_12_22) (pc' := 23) rfl rfl ?_
              refine gBipush X9 hx (v := (32 : Int32)) (hb hby d_prog_7_method_12_23) (pc' := 25) rfl rfl ?_
              refine gIcmpGe X9 hx (hb hby d_prog_7_method_12_25) (pc' := 34) (by decide) (by decide) (pn := 28) rfl (fun (c25' : (32 : Int) ≤ c1.toInt) => ?_) (fun (c25' : c1.toInt < (32 : Int)) => ?_)
              · refine gLoadIN X9 hx (hb hby d_prog_7_method_12_34) (pc' := 35) rfl rfl ?_
                refine gBipush X9 hx (v := (127 : Int32)) (hb hby d_prog_7_method_12_35) (pc' := 37) rfl rfl ?_
                refine gIcmpEqT X9 hx (hb hby d_prog_7_method_12_37) (pc' := 44) (by decide) (by decide) (pn := 40) rfl (fun (c37' : c1.toInt = (127 : Int)) => ?_) (fun (c37' : ¬ c1.toInt = (127 : Int)) => ?_)
                · refine gIconst X9 hx (v := (0 : Int32)) (hb hby d_prog_7_method_12_44) (pc' := 45) rfl rfl ?_
                  refine gStoreIN X9 hx (hb hby d_prog_7_method_12_45) (l' := #[.val (.ref a), .val (.int (0 : Int32)), .val (.int (1 : Int32)), .val (.int c1)]) (pc' := 46) rfl rfl ?_
                  refine gIinc X9 hx (v := (1 : Int32)) (hb hby d_prog_7_method_12_46) (l' := #[.val (.ref a), .val (.int (0 : Int32)), .val (.int (2 : Int32)), .val (.int c1)]) (pc' := 49) rfl rfl rfl rfl ?_
                  refine gGoto X9 hx (hb hby d_prog_7_method_12_49) (pc' := 4) (by decide) (by decide) ?_
                  refine gLoadIN X9 hx (hb hby d_prog_7_method_12_4) (pc' := 5) rfl rfl ?_
                  refine gLoadAN X9 hx (hb hby d_prog_7_method_12_5) (pc' := 6) rfl rfl rfl ?_
                  refine gCallVJ X9 hx hZ (y := (⟨"java/lang/String", "length", "()I"⟩ : MethodName)) hown e9 (by rw [hml]; rfl) E (hw _ (List.mem_of_getElem? (i := 27) rfl)) (hw _ (List.mem_of_getElem? (i := 28) rfl)) (hw _ (List.mem_of_getElem? (i := 30) rfl)) (hw _ (List.mem_of_getElem? (i := 29) rfl)) (hw _ (List.mem_of_getElem? (i := 4) rfl)) (hw _ (List.mem_of_getElem? (i := 31) rfl)) (by decide) (argsL := []) (st := [(.int (2 : Int32))]) (c_length_3 l Z a0 hw a t ck c0 c1 c2 h0 hCpt E C V A hc0 hc1 hc2) (lenOf pd_1 rfl) (hb hby d_prog_7_method_12_6) (pc' := 9) rfl rfl rfl rfl (by decide) (W := 1) (Nat.le_of_eq rfl) (by decide) (by decide) (by decide) ?_
                  intro T10 X10 e10
                  refine gIcmpGe X10 hx (hb hby d_prog_7_method_12_9) (pc' := 52) (by decide) (by decide) (pn := 12) rfl (fun (c9'' : (3 : Int) ≤ (2 : Int)) => ?_) (fun (c9'' : (2 : Int) < (3 : Int)) => ?_)
                  · exact absurd c9'' (by decide)
                  · refine gLoadAN X10 hx (hb hby d_prog_7_method_12_12) (pc' := 13) rfl rfl rfl ?_
                    refine gLoadIN X10 hx (hb hby d_prog_7_method_12_13) (pc' := 14) rfl rfl ?_
                    refine gCallVJ X10 hx hZ (y := (⟨"java/lang/String", "charAt", "(I)C"⟩ : MethodName)) hown e10 (by rw [hml]; rfl) E (hw _ (List.mem_of_getElem? (i := 52) rfl)) (hw _ (List.mem_of_getElem? (i := 53) rfl)) (hw _ (List.mem_of_getElem? (i := 55) rfl)) (hw _ (List.mem_of_getElem? (i := 54) rfl)) (hw _ (List.mem_of_getElem? (i := 4) rfl)) (hw _ (List.mem_of_getElem? (i := 56) rfl)) (by decide) (argsL := [(.int (2 : Int32))]) (st := []) (c_charAt_2_3 l Z a0 hw a t ck c0 c1 c2 h0 hSio hCpt E C V A hc0 hc1 hc2) (lenOf pd_5 rfl) (hb hby d_prog_7_method_12_14) (pc' := 17) rfl rfl rfl rfl (by decide) (W := 0) (Nat.le_of_eq rfl) (by decide) (by decide) (by decide) ?_
                    intro T11 X11 e11
                    refine gStoreIN X11 hx (hb hby d_prog_7_method_12_17) (l' := #[.val (.ref a), .val (.int (0 : Int32)), .val (.int (2 : Int32)), .val (.int c2)]) (pc' := 18) rfl rfl ?_
                    refine gLoadIN X11 hx (hb hby d_prog_7_method_12_18) (pc' := 19) rfl rfl ?_
                    refine gIfEqT X11 hx (hb hby d_prog_7_method_12_19) (pc' := 44) (by decide) (by decide) (pn := 22) rfl (fun (c19'' : (0 : Int) = (0 : Int)) => ?_) (fun (c19'' : ¬ (0 : Int) = (0 : Int)) => ?_)
                    · refine gIconst X11 hx (v := (0 : Int32)) (hb hby d_prog_7_method_12_44) (pc' := 45) rfl rfl ?_
                      refine gStoreIN X11 hx (hb hby d_prog_7_method_12_45) (l' := #[.val (.ref a), .val (.int (0 : Int32)), .val (.int (2 : Int32)), .val (.int c2)]) (pc' := 46) rfl rfl ?_
                      refine gIinc X11 hx (v := (1 : Int32)) (hb hby d_prog_7_method_12_46) (l' := #[.val (.ref a), .val (.int (0 : Int32)), .val (.int (3 : Int32)), .val (.int c2)]) (pc' := 49) rfl rfl rfl rfl ?_
                      refine gGoto X11 hx (hb hby d_prog_7_method_12_49) (pc' := 4) (by decide) (by decide) ?_
                      refine gLoadIN X11 hx (hb hby d_prog_7_method_12_4) (pc' := 5) rfl rfl ?_
                      refine gLoadAN X11 hx (hb hby d_prog_7_method_12_5) (pc' := 6) rfl rfl rfl ?_
                      refine gCallVJ X11 hx hZ (y := (⟨"java/lang/String", "length", "()I"⟩ : MethodName)) hown e11 (by rw [hml]; rfl) E (hw _ (List.mem_of_getElem? (i := 27) rfl)) (hw _ (List.mem_of_getElem? (i := 28) rfl)) (hw _ (List.mem_of_getElem? (i := 30) rfl)) (hw _ (List.mem_of_getElem? (i := 29) rfl)) (hw _ (List.mem_of_getElem? (i := 4) rfl)) (hw _ (List.mem_of_getElem? (i := 31) rfl)) (by decide) (argsL := []) (st := [(.int (3 : Int32))]) (c_length_3 l Z a0 hw a t ck c0 c1 c2 h0 hCpt E C V A hc0 hc1 hc2) (lenOf pd_1 rfl) (hb hby d_prog_7_method_12_6) (pc' := 9) rfl rfl rfl rfl (by decide) (W := 1) (Nat.le_of_eq rfl) (by decide) (by decide) (by decide) ?_
                      intro T12 X12 e12
                      refine gIcmpGe X12 hx (hb hby d_prog_7_method_12_9) (pc' := 52) (by decide) (by decide) (pn := 12) rfl (fun (c9''' : (3 : Int) ≤ (3 : Int)) => ?_) (fun (c9''' : (3 : Int) < (3 : Int)) => ?_)
                      · refine gLoadIN X12 hx (hb hby d_prog_7_method_12_52) (pc' := 53) rfl rfl ?_
                        exact gRetN X12 hx hlk hret (by simp) (hb hby d_prog_7_method_12_53) (w := (0 : Int32)) rfl (by decide) (by decide) (just_f (by omega) e12)
                      · exact absurd c9''' (by decide)
                    · exact absurd c19'' (by decide)
                · refine gIconst X9 hx (v := (1 : Int32)) (hb hby d_prog_7_method_12_40) (pc' := 41) rfl rfl ?_
                  refine gGoto X9 hx (hb hby d_prog_7_method_12_41) (pc' := 45) (by decide) (by decide) ?_
                  refine gStoreIN X9 hx (hb hby d_prog_7_method_12_45) (l' := #[.val (.ref a), .val (.int (1 : Int32)), .val (.int (1 : Int32)), .val (.int c1)]) (pc' := 46) rfl rfl ?_
                  refine gIinc X9 hx (v := (1 : Int32)) (hb hby d_prog_7_method_12_46) (l' := #[.val (.ref a), .val (.int (1 : Int32)), .val (.int (2 : Int32)), .val (.int c1)]) (pc' := 49) rfl rfl rfl rfl ?_
                  refine gGoto X9 hx (hb hby d_prog_7_method_12_49) (pc' := 4) (by decide) (by decide) ?_
                  refine gLoadIN X9 hx (hb hby d_prog_7_method_12_4) (pc' := 5) rfl rfl ?_
                  refine gLoadAN X9 hx (hb hby d_prog_7_method_12_5) (pc' := 6) rfl rfl rfl ?_
                  refine gCallVJ X9 hx hZ (y := (⟨"java/lang/String", "length", "()I"⟩ : MethodName)) hown e9 (by rw [hml]; rfl) E (hw _ (List.mem_of_getElem? (i := 27) rfl)) (hw _ (List.mem_of_getElem? (i := 28) rfl)) (hw _ (List.mem_of_getElem? (i := 30) rfl)) (hw _ (List.mem_of_getElem? (i := 29) rfl)) (hw _ (List.mem_of_getElem? (i := 4) rfl)) (hw _ (List.mem_of_getElem? (i := 31) rfl)) (by decide) (argsL := []) (st := [(.int (2 : Int32))]) (c_length_3 l Z a0 hw a t ck c0 c1 c2 h0 hCpt E C V A hc0 hc1 hc2) (lenOf pd_1 rfl) (hb hby d_prog_7_method_12_6) (pc' := 9) rfl rfl rfl rfl (by decide) (W := 1) (Nat.le_of_eq rfl) (by decide) (by decide) (by decide) ?_
                  intro T13 X13 e13
                  refine gIcmpGe X13 hx (hb hby d_prog_7_method_12_9) (pc' := 52) (by decide) (by decide) (pn := 12) rfl (fun (c9'' : (3 : Int) ≤ (2 : Int)) => ?_) (fun (c9'' : (2 : Int) < (3 : Int)) => ?_)
                  · exact absurd c9'' (by decide)
                  · refine gLoadAN X13 hx (hb hby d_prog_7_method_12_12) (pc' := 13) rfl rfl rfl ?_
                    refine gLoadIN X13 hx (hb hby d_prog_7_method_12_13) (pc' := 14) rfl rfl ?_
                    refine gCallVJ X13 hx hZ (y := (⟨"java/lang/String", "charAt", "(I)C"⟩ : MethodName)) hown e13 (by rw [hml]; rfl) E (hw _ (List.mem_of_getElem? (i := 52) rfl)) (hw _ (List.mem_of_getElem? (i := 53) rfl)) (hw _ (List.mem_of_getElem? (i := 55) rfl)) (hw _ (List.mem_of_getElem? (i := 54) rfl)) (hw _ (List.mem_of_getElem? (i := 4) rfl)) (hw _ (List.mem_of_getElem? (i := 56) rfl)) (by decide) (argsL := [(.int (2 : Int32))]) (st := []) (c_charAt_2_3 l Z a0 hw a t ck c0 c1 c2 h0 hSio hCpt E C V A hc0 hc1 hc2) (lenOf pd_5 rfl) (hb hby d_prog_7_method_12_14) (pc' := 17) rfl rfl rfl rfl (by decide) (W := 0) (Nat.le_of_eq rfl) (by decide) (by decide) (by decide) ?_
                    intro T14 X14 e14
                    refine gStoreIN X14 hx (hb hby d_prog_7_method_12_17) (l' := #[.val (.ref a), .val (.int (1 : Int32)), .val (.int (2 : Int32)), .val (.int c2)]) (pc' := 18) rfl rfl ?_
                    refine gLoadIN X14 hx (hb hby d_prog_7_method_12_18) (pc' := 19) rfl rfl ?_
                    refine gIfEqT X14 hx (hb hby d_prog_7_method_12_19) (pc' := 44) (by decide) (by decide) (pn := 22) rfl (fun (c19'' : (1 : Int) = (0 : Int)) => ?_) (fun (c19'' : ¬ (1 : Int) = (0 : Int)) => ?_)
                    · exact absurd c19'' (by decide)
                    · refine gLoadIN X14 hx (hb hby d_prog_7_method_12_22) (pc' := 23) rfl rfl ?_
                      refine gBipush X14 hx (v := (32 : Int32)) (hb hby d_prog_7_method_12_23) (pc' := 25) rfl rfl ?_
                      refine gIcmpGe X14 hx (hb hby d_prog_7_method_12_25) (pc' := 34) (by decide) (by decide) (pn := 28) rfl (fun (c25'' : (32 : Int) ≤ c2.toInt) => ?_) (fun (c25'' : c2.toInt < (32 : Int)) => ?_)
                      · refine gLoadIN X14 hx (hb hby d_prog_7_method_12_34) (pc' := 35) rfl rfl ?_
                        refine gBipush X14 hx (v := (127 : Int32)) (hb hby d_prog_7_method_12_35) (pc' := 37) rfl rfl ?_
                        refine gIcmpEqT X14 hx (hb hby d_prog_7_method_12_37) (pc' := 44) (by decide) (by decide) (pn := 40) rfl (fun (c37'' : c2.toInt = (127 : Int)) => ?_) (fun (c37'' : ¬ c2.toInt = (127 : Int)) => ?_)
                        · refine gIconst X14 hx (v := (0 : Int32)) (hb hby d_prog_7_method_12_44) (pc' := 45) rfl rfl ?_
                          refine gStoreIN X14 hx (hb hby d_prog_7_method_12_45) (l' := #[.val (.ref a), .val (.int (0 : Int32)), .val (.int (2 : Int32)), .val (.int c2)]) (pc' := 46) rfl rfl ?_
                          refine gIinc X14 hx (v := (1 : Int32)) (hb hby d_prog_7_method_12_46) (l' := #[.val (.ref a), .val (.int (0 : Int32)), .val (.int (3 : Int32)), .val (.int c2)]) (pc' := 49) rfl rfl rfl rfl ?_
                          refine gGoto X14 hx (hb hby d_prog_7_method_12_49) (pc' := 4) (by decide) (by decide) ?_
                          refine gLoadIN X14 hx (hb hby d_prog_7_method_12_4) (pc' := 5) rfl rfl ?_
                          refine gLoadAN X14 hx (hb hby d_prog_7_method_12_5) (pc' := 6) rfl rfl rfl ?_
                          refine gCallVJ X14 hx hZ (y := (⟨"java/lang/String", "length", "()I"⟩ : MethodName)) hown e14 (by rw [hml]; rfl) E (hw _ (List.mem_of_getElem? (i := 27) rfl)) (hw _ (List.mem_of_getElem? (i := 28) rfl)) (hw _ (List.mem_of_getElem? (i := 30) rfl)) (hw _ (List.mem_of_getElem? (i := 29) rfl)) (hw _ (List.mem_of_getElem? (i := 4) rfl)) (hw _ (List.mem_of_getElem? (i := 31) rfl)) (by decide) (argsL := []) (st := [(.int (3 : Int32))]) (c_length_3 l Z a0 hw a t ck c0 c1 c2 h0 hCpt E C V A hc0 hc1 hc2) (lenOf pd_1 rfl) (hb hby d_prog_7_method_12_6) (pc' := 9) rfl rfl rfl rfl (by decide) (W := 1) (Nat.le_of_eq rfl) (by decide) (by decide) (by decide) ?_
                          intro T15 X15 e15
                          refine gIcmpGe X15 hx (hb hby d_prog_7_method_12_9) (pc' := 52) (by decide) (by decide) (pn := 12) rfl (fun (c9''' : (3 : Int) ≤ (3 : Int)) => ?_) (fun (c9''' : (3 : Int) < (3 : Int)) => ?_)
                          · refine gLoadIN X15 hx (hb hby d_prog_7_method_12_52) (pc' := 53) rfl rfl ?_
                            exact gRetN X15 hx hlk hret (by simp) (hb hby d_prog_7_method_12_53) (w := (0 : Int32)) rfl (by decide) (by decide) (just_f (by omega) e15)
                          · exact absurd c9''' (by decide)
                        · refine gIconst X14 hx (v := (1 : Int32)) (hb hby d_prog_7_method_12_40) (pc' := 41) rfl rfl ?_
                          refine gGoto X14 hx (hb hby d_prog_7_method_12_41) (pc' := 45) (by decide) (by decide) ?_
                          refine gStoreIN X14 hx (hb hby d_prog_7_method_12_45) (l' := #[.val (.ref a), .val (.int (1 : Int32)), .val (.int (2 : Int32)), .val (.int c2)]) (pc' := 46) rfl rfl ?_
                          refine gIinc X14 hx (v := (1 : Int32)) (hb hby d_prog_7_method_12_46) (l' := #[.val (.ref a), .val (.int (1 : Int32)), .val (.int (3 : Int32)), .val (.int c2)]) (pc' := 49) rfl rfl rfl rfl ?_
                          refine gGoto X14 hx (hb hby d_prog_7_method_12_49) (pc' := 4) (by decide) (by decide) ?_
                          refine gLoadIN X14 hx (hb hby d_prog_7_method_12_4) (pc' := 5) rfl rfl ?_
                          refine gLoadAN X14 hx (hb hby d_prog_7_method_12_5) (pc' := 6) rfl rfl rfl ?_
                          refine gCallVJ X14 hx hZ (y := (⟨"java/lang/String", "length", "()I"⟩ : MethodName)) hown e14 (by rw [hml]; rfl) E (hw _ (List.mem_of_getElem? (i := 27) rfl)) (hw _ (List.mem_of_getElem? (i := 28) rfl)) (hw _ (List.mem_of_getElem? (i := 30) rfl)) (hw _ (List.mem_of_getElem? (i := 29) rfl)) (hw _ (List.mem_of_getElem? (i := 4) rfl)) (hw _ (List.mem_of_getElem? (i := 31) rfl)) (by decide) (argsL := []) (st := [(.int (3 : Int32))]) (c_length_3 l Z a0 hw a t ck c0 c1 c2 h0 hCpt E C V A hc0 hc1 hc2) (lenOf pd_1 rfl) (hb hby d_prog_7_method_12_6) (pc' := 9) rfl rfl rfl rfl (by decide) (W := 1) (Nat.le_of_eq rfl) (by decide) (by decide) (by decide) ?_
                          intro T16 X16 e16
                          refine gIcmpGe X16 hx (hb hby d_prog_7_method_12_9) (pc' := 52) (by decide) (by decide) (pn := 12) rfl (fun (c9''' : (3 : Int) ≤ (3 : Int)) => ?_) (fun (c9''' : (3 : Int) < (3 : Int)) => ?_)
                          · refine gLoadIN X16 hx (hb hby d_prog_7_method_12_52) (pc' := 53) rfl rfl ?_
                            exact gRetN X16 hx hlk hret (by simp) (hb hby d_prog_7_method_12_53) (w := (1 : Int32)) rfl (by decide) (by decide) (just_t (by omega) e16)
                          · exact absurd c9''' (by decide)
                      · refine gLoadIN X14 hx (hb hby d_prog_7_method_12_28) (pc' := 29) rfl rfl ?_
                        refine gBipush X14 hx (v := (9 : Int32)) (hb hby d_prog_7_method_12_29) (pc' := 31) rfl rfl ?_
                        refine gIcmpNeT X14 hx (hb hby d_prog_7_method_12_31) (pc' := 44) (by decide) (by decide) (pn := 34) rfl (fun (c31 : ¬ c2.toInt = (9 : Int)) => ?_) (fun (c31 : c2.toInt = (9 : Int)) => ?_)
                        · refine gIconst X14 hx (v := (0 : Int32)) (hb hby d_prog_7_method_12_44) (pc' := 45) rfl rfl ?_
                          refine gStoreIN X14 hx (hb hby d_prog_7_method_12_45) (l' := #[.val (.ref a), .val (.int (0 : Int32)), .val (.int (2 : Int32)), .val (.int c2)]) (pc' := 46) rfl rfl ?_
                          refine gIinc X14 hx (v := (1 : Int32)) (hb hby d_prog_7_method_12_46) (l' := #[.val (.ref a), .val (.int (0 : Int32)), .val (.int (3 : Int32)), .val (.int c2)]) (pc' := 49) rfl rfl rfl rfl ?_
                          refine gGoto X14 hx (hb hby d_prog_7_method_12_49) (pc' := 4) (by decide) (by decide) ?_
                          refine gLoadIN X14 hx (hb hby d_prog_7_method_12_4) (pc' := 5) rfl rfl ?_
                          refine gLoadAN X14 hx (hb hby d_prog_7_method_12_5) (pc' := 6) rfl rfl rfl ?_
                          refine gCallVJ X14 hx hZ (y := (⟨"java/lang/String", "length", "()I"⟩ : MethodName)) hown e14 (by rw [hml]; rfl) E (hw _ (List.mem_of_getElem? (i := 27) rfl)) (hw _ (List.mem_of_getElem? (i := 28) rfl)) (hw _ (List.mem_of_getElem? (i := 30) rfl)) (hw _ (List.mem_of_getElem? (i := 29) rfl)) (hw _ (List.mem_of_getElem? (i := 4) rfl)) (hw _ (List.mem_of_getElem? (i := 31) rfl)) (by decide) (argsL := []) (st := [(.int (3 : Int32))]) (c_length_3 l Z a0 hw a t ck c0 c1 c2 h0 hCpt E C V A hc0 hc1 hc2) (lenOf pd_1 rfl) (hb hby d_prog_7_method_12_6) (pc' := 9) rfl rfl rfl rfl (by decide) (W := 1) (Nat.le_of_eq rfl) (by decide) (by decide) (by decide) ?_
                          intro T17 X17 e17
                          refine gIcmpGe X17 hx (hb hby d_prog_7_method_12_9) (pc' := 52) (by decide) (by decide) (pn := 12) rfl (fun (c9''' : (3 : Int) ≤ (3 : Int)) => ?_) (fun (c9''' : (3 : Int) < (3 : Int)) => ?_)
                          · refine gLoadIN X17 hx (hb hby d_prog_7_method_12_52) (pc' := 53) rfl rfl ?_
                            exact gRetN X17 hx hlk hret (by simp) (hb hby d_prog_7_method_12_53) (w := (0 : Int32)) rfl (by decide) (by decide) (just_f (by omega) e17)
                          · exact absurd c9''' (by decide)
                        · refine gLoadIN X14 hx (hb hby d_prog_7_method_12_34) (pc' := 35) rfl rfl ?_
                          refine gBipush X14 hx (v := (127 : Int32)) (hb hby d_prog_7_method_12_35) (pc' := 37) rfl rfl ?_
                          refine gIcmpEqT X14 hx (hb hby d_prog_7_method_12_37) (pc' := 44) (by decide) (by decide) (pn := 40) rfl (fun (c37'' : c2.toInt = (127 : Int)) => ?_) (fun (c37'' : ¬ c2.toInt = (127 : Int)) => ?_)
                          · exact absurd c37'' (by omega)
                          · refine gIconst X14 hx (v := (1 : Int32)) (hb hby d_prog_7_method_12_40) (pc' := 41) rfl rfl ?_
                            refine gGoto X14 hx (hb hby d_prog_7_method_12_41) (pc' := 45) (by decide) (by decide) ?_
                            refine gStoreIN X14 hx (hb hby d_prog_7_method_12_45) (l' := #[.val (.ref a), .val (.int (1 : Int32)), .val (.int (2 : Int32)), .val (.int c2)]) (pc' := 46) rfl rfl ?_
                            refine gIinc X14 hx (v := (1 : Int32)) (hb hby d_prog_7_method_12_46) (l' := #[.val (.ref a), .val (.int (1 : Int32)), .val (.int (3 : Int32)), .val (.int c2)]) (pc' := 49) rfl rfl rfl rfl ?_
                            refine gGoto X14 hx (hb hby d_prog_7_method_12_49) (pc' := 4) (by decide) (by decide) ?_
                            refine gLoadIN X14 hx (hb hby d_prog_7_method_12_4) (pc' := 5) rfl rfl ?_
                            refine gLoadAN X14 hx (hb hby d_prog_7_method_12_5) (pc' := 6) rfl rfl rfl ?_
                            refine gCallVJ X14 hx hZ (y := (⟨"java/lang/String", "length", "()I"⟩ : MethodName)) hown e14 (by rw [hml]; rfl) E (hw _ (List.mem_of_getElem? (i := 27) rfl)) (hw _ (List.mem_of_getElem? (i := 28) rfl)) (hw _ (List.mem_of_getElem? (i := 30) rfl)) (hw _ (List.mem_of_getElem? (i := 29) rfl)) (hw _ (List.mem_of_getElem? (i := 4) rfl)) (hw _ (List.mem_of_getElem? (i := 31) rfl)) (by decide) (argsL := []) (st := [(.int (3 : Int32))]) (c_length_3 l Z a0 hw a t ck c0 c1 c2 h0 hCpt E C V A hc0 hc1 hc2) (lenOf pd_1 rfl) (hb hby d_prog_7_method_12_6) (pc' := 9) rfl rfl rfl rfl (by decide) (W := 1) (Nat.le_of_eq rfl) (by decide) (by decide) (by decide) ?_
                            intro T18 X18 e18
                            refine gIcmpGe X18 hx (hb hby d_prog_7_method_12_9) (pc' := 52) (by decide) (by decide) (pn := 12) rfl (fun (c9''' : (3 : Int) ≤ (3 : Int)) => ?_) (fun (c9''' : (3 : Int) < (3 : Int)) => ?_)
                            · refine gLoadIN X18 hx (hb hby d_prog_7_method_12_52) (pc' := 53) rfl rfl ?_
                              exact gRetN X18 hx hlk hret (by simp) (hb hby d_prog_7_method_12_53) (w := (1 : Int32)) rfl (by decide) (by decide) (just_t (by omega) e18)
                            · exact absurd c9''' (by decide)
              · refine gLoadIN X9 hx (hb hby d_prog_7_method_12_28) (pc' := 29) rfl rfl ?_
                refine gBipush X9 hx (v := (9 : Int32)) (hb hby d_prog_7_method_12_29) (pc' := 31) rfl rfl ?_
                refine gIcmpNeT X9 hx (hb hby d_prog_7_method_12_31) (pc' := 44) (by decide) (by decide) (pn := 34) rfl (fun (c31 : ¬ c1.toInt = (9 : Int)) => ?_) (fun (c31 : c1.toInt = (9 : Int)) => ?_)
                · refine gIconst X9 hx (v := (0 : Int32)) (hb hby d_prog_7_method_12_44) (pc' := 45) rfl rfl ?_
                  refine gStoreIN X9 hx (hb hby d_prog_7_method_12_45) (l' := #[.val (.ref a), .val (.int (0 : Int32)), .val (.int (1 : Int32)), .val (.int c1)]) (pc' := 46) rfl rfl ?_
                  refine gIinc X9 hx (v := (1 : Int32)) (hb hby d_prog_7_method_12_46) (l' := #[.val (.ref a), .val (.int (0 : Int32)), .val (.int (2 : Int32)), .val (.int c1)]) (pc' := 49) rfl rfl rfl rfl ?_
                  refine gGoto X9 hx (hb hby d_prog_7_method_12_49) (pc' := 4) (by decide) (by decide) ?_
                  refine gLoadIN X9 hx (hb hby d_prog_7_method_12_4) (pc' := 5) rfl rfl ?_
                  refine gLoadAN X9 hx (hb hby d_prog_7_method_12_5) (pc' := 6) rfl rfl rfl ?_
                  refine gCallVJ X9 hx hZ (y := (⟨"java/lang/String", "length", "()I"⟩ : MethodName)) hown e9 (by rw [hml]; rfl) E (hw _ (List.mem_of_getElem? (i := 27) rfl)) (hw _ (List.mem_of_getElem? (i := 28) rfl)) (hw _ (List.mem_of_getElem? (i := 30) rfl)) (hw _ (List.mem_of_getElem? (i := 29) rfl)) (hw _ (List.mem_of_getElem? (i := 4) rfl)) (hw _ (List.mem_of_getElem? (i := 31) rfl)) (by decide) (argsL := []) (st := [(.int (2 : Int32))]) (c_length_3 l Z a0 hw a t ck c0 c1 c2 h0 hCpt E C V A hc0 hc1 hc2) (lenOf pd_1 rfl) (hb hby d_prog_7_method_12_6) (pc' := 9) rfl rfl rfl rfl (by decide) (W := 1) (Nat.le_of_eq rfl) (by decide) (by decide) (by decide) ?_
                  intro T19 X19 e19
                  refine gIcmpGe X19 hx (hb hby d_prog_7_method_12_9) (pc' := 52) (by decide) (by decide) (pn := 12) rfl (fun (c9'' : (3 : Int) ≤ (2 : Int)) => ?_) (fun (c9'' : (2 : Int) < (3 : Int)) => ?_)
                  · exact absurd c9'' (by decide)
                  · refine gLoadAN X19 hx (hb hby d_prog_7_method_12_12) (pc' := 13) rfl rfl rfl ?_
                    refine gLoadIN X19 hx (hb hby d_prog_7_method_12_13) (pc' := 14) rfl rfl ?_
                    refine gCallVJ X19 hx hZ (y := (⟨"java/lang/String", "charAt", "(I)C"⟩ : MethodName)) hown e19 (by rw [hml]; rfl) E (hw _ (List.mem_of_getElem? (i := 52) rfl)) (hw _ (List.mem_of_getElem? (i := 53) rfl)) (hw _ (List.mem_of_getElem? (i := 55) rfl)) (hw _ (List.mem_of_getElem? (i := 54) rfl)) (hw _ (List.mem_of_getElem? (i := 4) rfl)) (hw _ (List.mem_of_getElem? (i := 56) rfl)) (by decide) (argsL := [(.int (2 : Int32))]) (st := []) (c_charAt_2_3 l Z a0 hw a t ck c0 c1 c2 h0 hSio hCpt E C V A hc0 hc1 hc2) (lenOf pd_5 rfl) (hb hby d_prog_7_method_12_14) (pc' := 17) rfl rfl rfl rfl (by decide) (W := 0) (Nat.le_of_eq rfl) (by decide) (by decide) (by decide) ?_
                    intro T20 X20 e20
                    refine gStoreIN X20 hx (hb hby d_prog_7_method_12_17) (l' := #[.val (.ref a), .val (.int (0 : Int32)), .val (.int (2 : Int32)), .val (.int c2)]) (pc' := 18) rfl rfl ?_
                    refine gLoadIN X20 hx (hb hby d_prog_7_method_12_18) (pc' := 19) rfl rfl ?_
                    refine gIfEqT X20 hx (hb hby d_prog_7_method_12_19) (pc' := 44) (by decide) (by decide) (pn := 22) rfl (fun (c19'' : (0 : Int) = (0 : Int)) => ?_) (fun (c19'' : ¬ (0 : Int) = (0 : Int)) => ?_)
                    · refine gIconst X20 hx (v := (0 : Int32)) (hb hby d_prog_7_method_12_44) (pc' := 45) rfl rfl ?_
                      refine gStoreIN X20 hx (hb hby d_prog_7_method_12_45) (l' := #[.val (.ref a), .val (.int (0 : Int32)), .val (.int (2 : Int32)), .val (.int c2)]) (pc' := 46) rfl rfl ?_
                      refine gIinc X20 hx (v := (1 : Int32)) (hb hby d_prog_7_method_12_46) (l' := #[.val (.ref a), .val (.int (0 : Int32)), .val (.int (3 : Int32)), .val (.int c2)]) (pc' := 49) rfl rfl rfl rfl ?_
                      refine gGoto X20 hx (hb hby d_prog_7_method_12_49) (pc' := 4) (by decide) (by decide) ?_
                      refine gLoadIN X20 hx (hb hby d_prog_7_method_12_4) (pc' := 5) rfl rfl ?_
                      refine gLoadAN X20 hx (hb hby d_prog_7_method_12_5) (pc' := 6) rfl rfl rfl ?_
                      refine gCallVJ X20 hx hZ (y := (⟨"java/lang/String", "length", "()I"⟩ : MethodName)) hown e20 (by rw [hml]; rfl) E (hw _ (List.mem_of_getElem? (i := 27) rfl)) (hw _ (List.mem_of_getElem? (i := 28) rfl)) (hw _ (List.mem_of_getElem? (i := 30) rfl)) (hw _ (List.mem_of_getElem? (i := 29) rfl)) (hw _ (List.mem_of_getElem? (i := 4) rfl)) (hw _ (List.mem_of_getElem? (i := 31) rfl)) (by decide) (argsL := []) (st := [(.int (3 : Int32))]) (c_length_3 l Z a0 hw a t ck c0 c1 c2 h0 hCpt E C V A hc0 hc1 hc2) (lenOf pd_1 rfl) (hb hby d_prog_7_method_12_6) (pc' := 9) rfl rfl rfl rfl (by decide) (W := 1) (Nat.le_of_eq rfl) (by decide) (by decide) (by decide) ?_
                      intro T21 X21 e21
                      refine gIcmpGe X21 hx (hb hby d_prog_7_method_12_9) (pc' := 52) (by decide) (by decide) (pn := 12) rfl (fun (c9''' : (3 : Int) ≤ (3 : Int)) => ?_) (fun (c9''' : (3 : Int) < (3 : Int)) => ?_)
                      · refine gLoadIN X21 hx (hb hby d_prog_7_method_12_52) (pc' := 53) rfl rfl ?_
                        exact gRetN X21 hx hlk hret (by simp) (hb hby d_prog_7_method_12_53) (w := (0 : Int32)) rfl (by decide) (by decide) (just_f (by omega) e21)
                      · exact absurd c9''' (by decide)
                    · exact absurd c19'' (by decide)
                · refine gLoadIN X9 hx (hb hby d_prog_7_method_12_34) (pc' := 35) rfl rfl ?_
                  refine gBipush X9 hx (v := (127 : Int32)) (hb hby d_prog_7_method_12_35) (pc' := 37) rfl rfl ?_
                  refine gIcmpEqT X9 hx (hb hby d_prog_7_method_12_37) (pc' := 44) (by decide) (by decide) (pn := 40) rfl (fun (c37' : c1.toInt = (127 : Int)) => ?_) (fun (c37' : ¬ c1.toInt = (127 : Int)) => ?_)
                  · exact absurd c37' (by omega)
                  · refine gIconst X9 hx (v := (1 : Int32)) (hb hby d_prog_7_method_12_40) (pc' := 41) rfl rfl ?_
                    refine gGoto X9 hx (hb hby d_prog_7_method_12_41) (pc' := 45) (by decide) (by decide) ?_
                    refine gStoreIN X9 hx (hb hby d_prog_7_method_12_45) (l' := #[.val (.ref a), .val (.int (1 : Int32)), .val (.int (1 : Int32)), .val (.int c1)]) (pc' := 46) rfl rfl ?_
                    refine gIinc X9 hx (v := (1 : Int32)) (hb hby d_prog_7_method_12_46) (l' := #[.val (.ref a), .val (.int (1 : Int32)), .val (.int (2 : Int32)), .val (.int c1)]) (pc' := 49) rfl rfl rfl rfl ?_
                    refine gGoto X9 hx (hb hby d_prog_7_method_12_49) (pc' := 4) (by decide) (by decide) ?_
                    refine gLoadIN X9 hx (hb hby d_prog_7_method_12_4) (pc' := 5) rfl rfl ?_
                    refine gLoadAN X9 hx (hb hby d_prog_7_method_12_5) (pc' := 6) rfl rfl rfl ?_
                    refine gCallVJ X9 hx hZ (y := (⟨"java/lang/String", "length", "()I"⟩ : MethodName)) hown e9 (by rw [hml]; rfl) E (hw _ (List.mem_of_getElem? (i := 27) rfl)) (hw _ (List.mem_of_getElem? (i := 28) rfl)) (hw _ (List.mem_of_getElem? (i := 30) rfl)) (hw _ (List.mem_of_getElem? (i := 29) rfl)) (hw _ (List.mem_of_getElem? (i := 4) rfl)) (hw _ (List.mem_of_getElem? (i := 31) rfl)) (by decide) (argsL := []) (st := [(.int (2 : Int32))]) (c_length_3 l Z a0 hw a t ck c0 c1 c2 h0 hCpt E C V A hc0 hc1 hc2) (lenOf pd_1 rfl) (hb hby d_prog_7_method_12_6) (pc' := 9) rfl rfl rfl rfl (by decide) (W := 1) (Nat.le_of_eq rfl) (by decide) (by decide) (by decide) ?_
                    intro T22 X22 e22
                    refine gIcmpGe X22 hx (hb hby d_prog_7_method_12_9) (pc' := 52) (by decide) (by decide) (pn := 12) rfl (fun (c9'' : (3 : Int) ≤ (2 : Int)) => ?_) (fun (c9'' : (2 : Int) < (3 : Int)) => ?_)
                    · exact absurd c9'' (by decide)
                    · refine gLoadAN X22 hx (hb hby d_prog_7_method_12_12) (pc' := 13) rfl rfl rfl ?_
                      refine gLoadIN X22 hx (hb hby d_prog_7_method_12_13) (pc' := 14) rfl rfl ?_
                      refine gCallVJ X22 hx hZ (y := (⟨"java/lang/String", "charAt", "(I)C"⟩ : MethodName)) hown e22 (by rw [hml]; rfl) E (hw _ (List.mem_of_getElem? (i := 52) rfl)) (hw _ (List.mem_of_getElem? (i := 53) rfl)) (hw _ (List.mem_of_getElem? (i := 55) rfl)) (hw _ (List.mem_of_getElem? (i := 54) rfl)) (hw _ (List.mem_of_getElem? (i := 4) rfl)) (hw _ (List.mem_of_getElem? (i := 56) rfl)) (by decide) (argsL := [(.int (2 : Int32))]) (st := []) (c_charAt_2_3 l Z a0 hw a t ck c0 c1 c2 h0 hSio hCpt E C V A hc0 hc1 hc2) (lenOf pd_5 rfl) (hb hby d_prog_7_method_12_14) (pc' := 17) rfl rfl rfl rfl (by decide) (W := 0) (Nat.le_of_eq rfl) (by decide) (by decide) (by decide) ?_
                      intro T23 X23 e23
                      refine gStoreIN X23 hx (hb hby d_prog_7_method_12_17) (l' := #[.val (.ref a), .val (.int (1 : Int32)), .val (.int (2 : Int32)), .val (.int c2)]) (pc' := 18) rfl rfl ?_
                      refine gLoadIN X23 hx (hb hby d_prog_7_method_12_18) (pc' := 19) rfl rfl ?_
                      refine gIfEqT X23 hx (hb hby d_prog_7_method_12_19) (pc' := 44) (by decide) (by decide) (pn := 22) rfl (fun (c19'' : (1 : Int) = (0 : Int)) => ?_) (fun (c19'' : ¬ (1 : Int) = (0 : Int)) => ?_)
                      · exact absurd c19'' (by decide)
                      · refine gLoadIN X23 hx (hb hby d_prog_7_method_12_22) (pc' := 23) rfl rfl ?_
                        refine gBipush X23 hx (v := (32 : Int32)) (hb hby d_prog_7_method_12_23) (pc' := 25) rfl rfl ?_
                        refine gIcmpGe X23 hx (hb hby d_prog_7_method_12_25) (pc' := 34) (by decide) (by decide) (pn := 28) rfl (fun (c25'' : (32 : Int) ≤ c2.toInt) => ?_) (fun (c25'' : c2.toInt < (32 : Int)) => ?_)
                        · refine gLoadIN X23 hx (hb hby d_prog_7_method_12_34) (pc' := 35) rfl rfl ?_
                          refine gBipush X23 hx (v := (127 : Int32)) (hb hby d_prog_7_method_12_35) (pc' := 37) rfl rfl ?_
                          refine gIcmpEqT X23 hx (hb hby d_prog_7_method_12_37) (pc' := 44) (by decide) (by decide) (pn := 40) rfl (fun (c37'' : c2.toInt = (127 : Int)) => ?_) (fun (c37'' : ¬ c2.toInt = (127 : Int)) => ?_)
                          · refine gIconst X23 hx (v := (0 : Int32)) (hb hby d_prog_7_method_12_44) (pc' := 45) rfl rfl ?_
                            refine gStoreIN X23 hx (hb hby d_prog_7_method_12_45) (l' := #[.val (.ref a), .val (.int (0 : Int32)), .val (.int (2 : Int32)), .val (.int c2)]) (pc' := 46) rfl rfl ?_
                            refine gIinc X23 hx (v := (1 : Int32)) (hb hby d_prog_7_method_12_46) (l' := #[.val (.ref a), .val (.int (0 : Int32)), .val (.int (3 : Int32)), .val (.int c2)]) (pc' := 49) rfl rfl rfl rfl ?_
                            refine gGoto X23 hx (hb hby d_prog_7_method_12_49) (pc' := 4) (by decide) (by decide) ?_
                            refine gLoadIN X23 hx (hb hby d_prog_7_method_12_4) (pc' := 5) rfl rfl ?_
                            refine gLoadAN X23 hx (hb hby d_prog_7_method_12_5) (pc' := 6) rfl rfl rfl ?_
                            refine gCallVJ X23 hx hZ (y := (⟨"java/lang/String", "length", "()I"⟩ : MethodName)) hown e23 (by rw [hml]; rfl) E (hw _ (List.mem_of_getElem? (i := 27) rfl)) (hw _ (List.mem_of_getElem? (i := 28) rfl)) (hw _ (List.mem_of_getElem? (i := 30) rfl)) (hw _ (List.mem_of_getElem? (i := 29) rfl)) (hw _ (List.mem_of_getElem? (i := 4) rfl)) (hw _ (List.mem_of_getElem? (i := 31) rfl)) (by decide) (argsL := []) (st := [(.int (3 : Int32))]) (c_length_3 l Z a0 hw a t ck c0 c1 c2 h0 hCpt E C V A hc0 hc1 hc2) (lenOf pd_1 rfl) (hb hby d_prog_7_method_12_6) (pc' := 9) rfl rfl rfl rfl (by decide) (W := 1) (Nat.le_of_eq rfl) (by decide) (by decide) (by decide) ?_
                            intro T24 X24 e24
                            refine gIcmpGe X24 hx (hb hby d_prog_7_method_12_9) (pc' := 52) (by decide) (by decide) (pn := 12) rfl (fun (c9''' : (3 : Int) ≤ (3 : Int)) => ?_) (fun (c9''' : (3 : Int) < (3 : Int)) => ?_)
                            · refine gLoadIN X24 hx (hb hby d_prog_7_method_12_52) (pc' := 53) rfl rfl ?_
                              exact gRetN X24 hx hlk hret (by simp) (hb hby d_prog_7_method_12_53) (w := (0 : Int32)) rfl (by decide) (by decide) (just_f (by omega) e24)
                            · exact absurd c9''' (by decide)
                          · refine gIconst X23 hx (v := (1 : Int32)) (hb hby d_prog_7_method_12_40) (pc' := 41) rfl rfl ?_
                            refine gGoto X23 hx (hb hby d_prog_7_method_12_41) (pc' := 45) (by decide) (by decide) ?_
                            refine gStoreIN X23 hx (hb hby d_prog_7_method_12_45) (l' := #[.val (.ref a), .val (.int (1 : Int32)), .val (.int (2 : Int32)), .val (.int c2)]) (pc' := 46) rfl rfl ?_
                            refine gIinc X23 hx (v := (1 : Int32)) (hb hby d_prog_7_method_12_46) (l' := #[.val (.ref a), .val (.int (1 : Int32)), .val (.int (3 : Int32)), .val (.int c2)]) (pc' := 49) rfl rfl rfl rfl ?_
                            refine gGoto X23 hx (hb hby d_prog_7_method_12_49) (pc' := 4) (by decide) (by decide) ?_
                            refine gLoadIN X23 hx (hb hby d_prog_7_method_12_4) (pc' := 5) rfl rfl ?_
                            refine gLoadAN X23 hx (hb hby d_prog_7_method_12_5) (pc' := 6) rfl rfl rfl ?_
                            refine gCallVJ X23 hx hZ (y := (⟨"java/lang/String", "length", "()I"⟩ : MethodName)) hown e23 (by rw [hml]; rfl) E (hw _ (List.mem_of_getElem? (i := 27) rfl)) (hw _ (List.mem_of_getElem? (i := 28) rfl)) (hw _ (List.mem_of_getElem? (i := 30) rfl)) (hw _ (List.mem_of_getElem? (i := 29) rfl)) (hw _ (List.mem_of_getElem? (i := 4) rfl)) (hw _ (List.mem_of_getElem? (i := 31) rfl)) (by decide) (argsL := []) (st := [(.int (3 : Int32))]) (c_length_3 l Z a0 hw a t ck c0 c1 c2 h0 hCpt E C V A hc0 hc1 hc2) (lenOf pd_1 rfl) (hb hby d_prog_7_method_12_6) (pc' := 9) rfl rfl rfl rfl (by decide) (W := 1) (Nat.le_of_eq rfl) (by decide) (by decide) (by decide) ?_
                            intro T25 X25 e25
                            refine gIcmpGe X25 hx (hb hby d_prog_7_method_12_9) (pc' := 52) (by decide) (by decide) (pn := 12) rfl (fun (c9''' : (3 : Int) ≤ (3 : Int)) => ?_) (fun (c9''' : (3 : Int) < (3 : Int)) => ?_)
                            · refine gLoadIN X25 hx (hb hby d_prog_7_method_12_52) (pc' := 53) rfl rfl ?_
                              exact gRetN X25 hx hlk hret (by simp) (hb hby d_prog_7_method_12_53) (w := (1 : Int32)) rfl (by decide) (by decide) (just_t (by omega) e25)
                            · exact absurd c9''' (by decide)
                        · refine gLoadIN X23 hx (hb hby d_prog_7_method_12_28) (pc' := 29) rfl rfl ?_
                          refine gBipush X23 hx (v := (9 : Int32)) (hb hby d_prog_7_method_12_29) (pc' := 31) rfl rfl ?_
                          refine gIcmpNeT X23 hx (hb hby d_prog_7_method_12_31) (pc' := 44) (by decide) (by decide) (pn := 34) rfl (fun (c31' : ¬ c2.toInt = (9 : Int)) => ?_) (fun (c31' : c2.toInt = (9 : Int)) => ?_)
                          · refine gIconst X23 hx (v := (0 : Int32)) (hb hby d_prog_7_method_12_44) (pc' := 45) rfl rfl ?_
                            refine gStoreIN X23 hx (hb hby d_prog_7_method_12_45) (l' := #[.val (.ref a), .val (.int (0 : Int32)), .val (.int (2 : Int32)), .val (.int c2)]) (pc' := 46) rfl rfl ?_
                            refine gIinc X23 hx (v := (1 : Int32)) (hb hby d_prog_7_method_12_46) (l' := #[.val (.ref a), .val (.int (0 : Int32)), .val (.int (3 : Int32)), .val (.int c2)]) (pc' := 49) rfl rfl rfl rfl ?_
                            refine gGoto X23 hx (hb hby d_prog_7_method_12_49) (pc' := 4) (by decide) (by decide) ?_
                            refine gLoadIN X23 hx (hb hby d_prog_7_method_12_4) (pc' := 5) rfl rfl ?_
                            refine gLoadAN X23 hx (hb hby d_prog_7_method_12_5) (pc' := 6) rfl rfl rfl ?_
                            refine gCallVJ X23 hx hZ (y := (⟨"java/lang/String", "length", "()I"⟩ : MethodName)) hown e23 (by rw [hml]; rfl) E (hw _ (List.mem_of_getElem? (i := 27) rfl)) (hw _ (List.mem_of_getElem? (i := 28) rfl)) (hw _ (List.mem_of_getElem? (i := 30) rfl)) (hw _ (List.mem_of_getElem? (i := 29) rfl)) (hw _ (List.mem_of_getElem? (i := 4) rfl)) (hw _ (List.mem_of_getElem? (i := 31) rfl)) (by decide) (argsL := []) (st := [(.int (3 : Int32))]) (c_length_3 l Z a0 hw a t ck c0 c1 c2 h0 hCpt E C V A hc0 hc1 hc2) (lenOf pd_1 rfl) (hb hby d_prog_7_method_12_6) (pc' := 9) rfl rfl rfl rfl (by decide) (W := 1) (Nat.le_of_eq rfl) (by decide) (by decide) (by decide) ?_
                            intro T26 X26 e26
                            refine gIcmpGe X26 hx (hb hby d_prog_7_method_12_9) (pc' := 52) (by decide) (by decide) (pn := 12) rfl (fun (c9''' : (3 : Int) ≤ (3 : Int)) => ?_) (fun (c9''' : (3 : Int) < (3 : Int)) => ?_)
                            · refine gLoadIN X26 hx (hb hby d_prog_7_method_12_52) (pc' := 53) rfl rfl ?_
                              exact gRetN X26 hx hlk hret (by simp) (hb hby d_prog_7_method_12_53) (w := (0 : Int32)) rfl (by decide) (by decide) (just_f (by omega) e26)
                            · exact absurd c9''' (by decide)
                          · refine gLoadIN X23 hx (hb hby d_prog_7_method_12_34) (pc' := 35) rfl rfl ?_
                            refine gBipush X23 hx (v := (127 : Int32)) (hb hby d_prog_7_method_12_35) (pc' := 37) rfl rfl ?_
                            refine gIcmpEqT X23 hx (hb hby d_prog_7_method_12_37) (pc' := 44) (by decide) (by decide) (pn := 40) rfl (fun (c37'' : c2.toInt = (127 : Int)) => ?_) (fun (c37'' : ¬ c2.toInt = (127 : Int)) => ?_)
                            · exact absurd c37'' (by omega)
                            · refine gIconst X23 hx (v := (1 : Int32)) (hb hby d_prog_7_method_12_40) (pc' := 41) rfl rfl ?_
                              refine gGoto X23 hx (hb hby d_prog_7_method_12_41) (pc' := 45) (by decide) (by decide) ?_
                              refine gStoreIN X23 hx (hb hby d_prog_7_method_12_45) (l' := #[.val (.ref a), .val (.int (1 : Int32)), .val (.int (2 : Int32)), .val (.int c2)]) (pc' := 46) rfl rfl ?_
                              refine gIinc X23 hx (v := (1 : Int32)) (hb hby d_prog_7_method_12_46) (l' := #[.val (.ref a), .val (.int (1 : Int32)), .val (.int (3 : Int32)), .val (.int c2)]) (pc' := 49) rfl rfl rfl rfl ?_
                              refine gGoto X23 hx (hb hby d_prog_7_method_12_49) (pc' := 4) (by decide) (by decide) ?_
                              refine gLoadIN X23 hx (hb hby d_prog_7_method_12_4) (pc' := 5) rfl rfl ?_
                              refine gLoadAN X23 hx (hb hby d_prog_7_method_12_5) (pc' := 6) rfl rfl rfl ?_
                              refine gCallVJ X23 hx hZ (y := (⟨"java/lang/String", "length", "()I"⟩ : MethodName)) hown e23 (by rw [hml]; rfl) E (hw _ (List.mem_of_getElem? (i := 27) rfl)) (hw _ (List.mem_of_getElem? (i := 28) rfl)) (hw _ (List.mem_of_getElem? (i := 30) rfl)) (hw _ (List.mem_of_getElem? (i := 29) rfl)) (hw _ (List.mem_of_getElem? (i := 4) rfl)) (hw _ (List.mem_of_getElem? (i := 31) rfl)) (by decide) (argsL := []) (st := [(.int (3 : Int32))]) (c_length_3 l Z a0 hw a t ck c0 c1 c2 h0 hCpt E C V A hc0 hc1 hc2) (lenOf pd_1 rfl) (hb hby d_prog_7_method_12_6) (pc' := 9) rfl rfl rfl rfl (by decide) (W := 1) (Nat.le_of_eq rfl) (by decide) (by decide) (by decide) ?_
                              intro T27 X27 e27
                              refine gIcmpGe X27 hx (hb hby d_prog_7_method_12_9) (pc' := 52) (by decide) (by decide) (pn := 12) rfl (fun (c9''' : (3 : Int) ≤ (3 : Int)) => ?_) (fun (c9''' : (3 : Int) < (3 : Int)) => ?_)
                              · refine gLoadIN X27 hx (hb hby d_prog_7_method_12_52) (pc' := 53) rfl rfl ?_
                                exact gRetN X27 hx hlk hret (by simp) (hb hby d_prog_7_method_12_53) (w := (1 : Int32)) rfl (by decide) (by decide) (just_t (by omega) e27)
                              · exact absurd c9''' (by decide)
      · refine gLoadIN X2 hx (hb hby d_prog_7_method_12_28) (pc' := 29) rfl rfl ?_
        refine gBipush X2 hx (v := (9 : Int32)) (hb hby d_prog_7_method_12_29) (pc' := 31) rfl rfl ?_
        refine gIcmpNeT X2 hx (hb hby d_prog_7_method_12_31) (pc' := 44) (by decide) (by decide) (pn := 34) rfl (fun (c31 : ¬ c0.toInt = (9 : Int)) => ?_) (fun (c31 : c0.toInt = (9 : Int)) => ?_)
        · refine gIconst X2 hx (v := (0 : Int32)) (hb hby d_prog_7_method_12_44) (pc' := 45) rfl rfl ?_
          refine gStoreIN X2 hx (hb hby d_prog_7_method_12_45) (l' := #[.val (.ref a), .val (.int (0 : Int32)), .val (.int (0 : Int32)), .val (.int c0)]) (pc' := 46) rfl rfl ?_
          refine gIinc X2 hx (v := (1 : Int32)) (hb hby d_prog_7_method_12_46) (l' := #[.val (.ref a), .val (.int (0 : Int32)), .val (.int (1 : Int32)), .val (.int c0)]) (pc' := 49) rfl rfl rfl rfl ?_
          refine gGoto X2 hx (hb hby d_prog_7_method_12_49) (pc' := 4) (by decide) (by decide) ?_
          refine gLoadIN X2 hx (hb hby d_prog_7_method_12_4) (pc' := 5) rfl rfl ?_
          refine gLoadAN X2 hx (hb hby d_prog_7_method_12_5) (pc' := 6) rfl rfl rfl ?_
          refine gCallVJ X2 hx hZ (y := (⟨"java/lang/String", "length", "()I"⟩ : MethodName)) hown e2 (by rw [hml]; rfl) E (hw _ (List.mem_of_getElem? (i := 27) rfl)) (hw _ (List.mem_of_getElem? (i := 28) rfl)) (hw _ (List.mem_of_getElem? (i := 30) rfl)) (hw _ (List.mem_of_getElem? (i := 29) rfl)) (hw _ (List.mem_of_getElem? (i := 4) rfl)) (hw _ (List.mem_of_getElem? (i := 31) rfl)) (by decide) (argsL := []) (st := [(.int (1 : Int32))]) (c_length_3 l Z a0 hw a t ck c0 c1 c2 h0 hCpt E C V A hc0 hc1 hc2) (lenOf pd_1 rfl) (hb hby d_prog_7_method_12_6) (pc' := 9) rfl rfl rfl rfl (by decide) (W := 1) (Nat.le_of_eq rfl) (by decide) (by decide) (by decide) ?_
          intro T28 X28 e28
          refine gIcmpGe X28 hx (hb hby d_prog_7_method_12_9) (pc' := 52) (by decide) (by decide) (pn := 12) rfl (fun (c9' : (3 : Int) ≤ (1 : Int)) => ?_) (fun (c9' : (1 : Int) < (3 : Int)) => ?_)
          · exact absurd c9' (by decide)
          · refine gLoadAN X28 hx (hb hby d_prog_7_method_12_12) (pc' := 13) rfl rfl rfl ?_
            refine gLoadIN X28 hx (hb hby d_prog_7_method_12_13) (pc' := 14) rfl rfl ?_
            refine gCallVJ X28 hx hZ (y := (⟨"java/lang/String", "charAt", "(I)C"⟩ : MethodName)) hown e28 (by rw [hml]; rfl) E (hw _ (List.mem_of_getElem? (i := 52) rfl)) (hw _ (List.mem_of_getElem? (i := 53) rfl)) (hw _ (List.mem_of_getElem? (i := 55) rfl)) (hw _ (List.mem_of_getElem? (i := 54) rfl)) (hw _ (List.mem_of_getElem? (i := 4) rfl)) (hw _ (List.mem_of_getElem? (i := 56) rfl)) (by decide) (argsL := [(.int (1 : Int32))]) (st := []) (c_charAt_1_3 l Z a0 hw a t ck c0 c1 c2 h0 hSio hCpt E C V A hc0 hc1 hc2) (lenOf pd_5 rfl) (hb hby d_prog_7_method_12_14) (pc' := 17) rfl rfl rfl rfl (by decide) (W := 0) (Nat.le_of_eq rfl) (by decide) (by decide) (by decide) ?_
            intro T29 X29 e29
            refine gStoreIN X29 hx (hb hby d_prog_7_method_12_17) (l' := #[.val (.ref a), .val (.int (0 : Int32)), .val (.int (1 : Int32)), .val (.int c1)]) (pc' := 18) rfl rfl ?_
            refine gLoadIN X29 hx (hb hby d_prog_7_method_12_18) (pc' := 19) rfl rfl ?_
            refine gIfEqT X29 hx (hb hby d_prog_7_method_12_19) (pc' := 44) (by decide) (by decide) (pn := 22) rfl (fun (c19' : (0 : Int) = (0 : Int)) => ?_) (fun (c19' : ¬ (0 : Int) = (0 : Int)) => ?_)
            · refine gIconst X29 hx (v := (0 : Int32)) (hb hby d_prog_7_method_12_44) (pc' := 45) rfl rfl ?_
              refine gStoreIN X29 hx (hb hby d_prog_7_method_12_45) (l' := #[.val (.ref a), .val (.int (0 : Int32)), .val (.int (1 : Int32)), .val (.int c1)]) (pc' := 46) rfl rfl ?_
              refine gIinc X29 hx (v := (1 : Int32)) (hb hby d_prog_7_method_12_46) (l' := #[.val (.ref a), .val (.int (0 : Int32)), .val (.int (2 : Int32)), .val (.int c1)]) (pc' := 49) rfl rfl rfl rfl ?_
              refine gGoto X29 hx (hb hby d_prog_7_method_12_49) (pc' := 4) (by decide) (by decide) ?_
              refine gLoadIN X29 hx (hb hby d_prog_7_method_12_4) (pc' := 5) rfl rfl ?_
              refine gLoadAN X29 hx (hb hby d_prog_7_method_12_5) (pc' := 6) rfl rfl rfl ?_
              refine gCallVJ X29 hx hZ (y := (⟨"java/lang/String", "length", "()I"⟩ : MethodName)) hown e29 (by rw [hml]; rfl) E (hw _ (List.mem_of_getElem? (i := 27) rfl)) (hw _ (List.mem_of_getElem? (i := 28) rfl)) (hw _ (List.mem_of_getElem? (i := 30) rfl)) (hw _ (List.mem_of_getElem? (i := 29) rfl)) (hw _ (List.mem_of_getElem? (i := 4) rfl)) (hw _ (List.mem_of_getElem? (i := 31) rfl)) (by decide) (argsL := []) (st := [(.int (2 : Int32))]) (c_length_3 l Z a0 hw a t ck c0 c1 c2 h0 hCpt E C V A hc0 hc1 hc2) (lenOf pd_1 rfl) (hb hby d_prog_7_method_12_6) (pc' := 9) rfl rfl rfl rfl (by decide) (W := 1) (Nat.le_of_eq rfl) (by decide) (by decide) (by decide) ?_
              intro T30 X30 e30
              refine gIcmpGe X30 hx (hb hby d_prog_7_method_12_9) (pc' := 52) (by decide) (by decide) (pn := 12) rfl (fun (c9'' : (3 : Int) ≤ (2 : Int)) => ?_) (fun (c9'' : (2 : Int) < (3 : Int)) => ?_)
              · exact absurd c9'' (by decide)
              · refine gLoadAN X30 hx (hb hby d_prog_7_method_12_12) (pc' := 13) rfl rfl rfl ?_
                refine gLoadIN X30 hx (hb hby d_prog_7_method_12_13) (pc' := 14) rfl rfl ?_
                refine gCallVJ X30 hx hZ (y := (⟨"java/lang/String", "charAt", "(I)C"⟩ : MethodName)) hown e30 (by rw [hml]; rfl) E (hw _ (List.mem_of_getElem? (i := 52) rfl)) (hw _ (List.mem_of_getElem? (i := 53) rfl)) (hw _ (List.mem_of_getElem? (i := 55) rfl)) (hw _ (List.mem_of_getElem? (i := 54) rfl)) (hw _ (List.mem_of_getElem? (i := 4) rfl)) (hw _ (List.mem_of_getElem? (i := 56) rfl)) (by decide) (argsL := [(.int (2 : Int32))]) (st := []) (c_charAt_2_3 l Z a0 hw a t ck c0 c1 c2 h0 hSio hCpt E C V A hc0 hc1 hc2) (lenOf pd_5 rfl) (hb hby d_prog_7_method_12_14) (pc' := 17) rfl rfl rfl rfl (by decide) (W := 0) (Nat.le_of_eq rfl) (by decide) (by decide) (by decide) ?_
                intro T31 X31 e31
                refine gStoreIN X31 hx (hb hby d_prog_7_method_12_17) (l' := #[.val (.ref a), .val (.int (0 : Int32)), .val (.int (2 : Int32)), .val (.int c2)]) (pc' := 18) rfl rfl ?_
                refine gLoadIN X31 hx (hb hby d_prog_7_method_12_18) (pc' := 19) rfl rfl ?_
                refine gIfEqT X31 hx (hb hby d_prog_7_method_12_19) (pc' := 44) (by decide) (by decide) (pn := 22) rfl (fun (c19'' : (0 : Int) = (0 : Int)) => ?_) (fun (c19'' : ¬ (0 : Int) = (0 : Int)) => ?_)
                · refine gIconst X31 hx (v := (0 : Int32)) (hb hby d_prog_7_method_12_44) (pc' := 45) rfl rfl ?_
                  refine gStoreIN X31 hx (hb hby d_prog_7_method_12_45) (l' := #[.val (.ref a), .val (.int (0 : Int32)), .val (.int (2 : Int32)), .val (.int c2)]) (pc' := 46) rfl rfl ?_
                  refine gIinc X31 hx (v := (1 : Int32)) (hb hby d_prog_7_method_12_46) (l' := #[.val (.ref a), .val (.int (0 : Int32)), .val (.int (3 : Int32)), .val (.int c2)]) (pc' := 49) rfl rfl rfl rfl ?_
                  refine gGoto X31 hx (hb hby d_prog_7_method_12_49) (pc' := 4) (by decide) (by decide) ?_
                  refine gLoadIN X31 hx (hb hby d_prog_7_method_12_4) (pc' := 5) rfl rfl ?_
                  refine gLoadAN X31 hx (hb hby d_prog_7_method_12_5) (pc' := 6) rfl rfl rfl ?_
                  refine gCallVJ X31 hx hZ (y := (⟨"java/lang/String", "length", "()I"⟩ : MethodName)) hown e31 (by rw [hml]; rfl) E (hw _ (List.mem_of_getElem? (i := 27) rfl)) (hw _ (List.mem_of_getElem? (i := 28) rfl)) (hw _ (List.mem_of_getElem? (i := 30) rfl)) (hw _ (List.mem_of_getElem? (i := 29) rfl)) (hw _ (List.mem_of_getElem? (i := 4) rfl)) (hw _ (List.mem_of_getElem? (i := 31) rfl)) (by decide) (argsL := []) (st := [(.int (3 : Int32))]) (c_length_3 l Z a0 hw a t ck c0 c1 c2 h0 hCpt E C V A hc0 hc1 hc2) (lenOf pd_1 rfl) (hb hby d_prog_7_method_12_6) (pc' := 9) rfl rfl rfl rfl (by decide) (W := 1) (Nat.le_of_eq rfl) (by decide) (by decide) (by decide) ?_
                  intro T32 X32 e32
                  refine gIcmpGe X32 hx (hb hby d_prog_7_method_12_9) (pc' := 52) (by decide) (by decide) (pn := 12) rfl (fun (c9''' : (3 : Int) ≤ (3 : Int)) => ?_) (fun (c9''' : (3 : Int) < (3 : Int)) => ?_)
                  · refine gLoadIN X32 hx (hb hby d_prog_7_method_12_52) (pc' := 53) rfl rfl ?_
                    exact gRetN X32 hx hlk hret (by simp) (hb hby d_prog_7_method_12_53) (w := (0 : Int32)) rfl (by decide) (by decide) (just_f (by omega) e32)
                  · exact absurd c9''' (by decide)
                · exact absurd c19'' (by decide)
            · exact absurd c19' (by decide)
        · refine gLoadIN X2 hx (hb hby d_prog_7_method_12_34) (pc' := 35) rfl rfl ?_
          refine gBipush X2 hx (v := (127 : Int32)) (hb hby d_prog_7_method_12_35) (pc' := 37) rfl rfl ?_
          refine gIcmpEqT X2 hx (hb hby d_prog_7_method_12_37) (pc' := 44) (by decide) (by decide) (pn := 40) rfl (fun (c37 : c0.toInt = (127 : Int)) => ?_) (fun (c37 : ¬ c0.toInt = (127 : Int)) => ?_)
          · exact absurd c37 (by omega)
          · refine gIconst X2 hx (v := (1 : Int32)) (hb hby d_prog_7_method_12_40) (pc' := 41) rfl rfl ?_
            refine gGoto X2 hx (hb hby d_prog_7_method_12_41) (pc' := 45) (by decide) (by decide) ?_
            refine gStoreIN X2 hx (hb hby d_prog_7_method_12_45) (l' := #[.val (.ref a), .val (.int (1 : Int32)), .val (.int (0 : Int32)), .val (.int c0)]) (pc' := 46) rfl rfl ?_
            refine gIinc X2 hx (v := (1 : Int32)) (hb hby d_prog_7_method_12_46) (l' := #[.val (.ref a), .val (.int (1 : Int32)), .val (.int (1 : Int32)), .val (.int c0)]) (pc' := 49) rfl rfl rfl rfl ?_
            refine gGoto X2 hx (hb hby d_prog_7_method_12_49) (pc' := 4) (by decide) (by decide) ?_
            refine gLoadIN X2 hx (hb hby d_prog_7_method_12_4) (pc' := 5) rfl rfl ?_
            refine gLoadAN X2 hx (hb hby d_prog_7_method_12_5) (pc' := 6) rfl rfl rfl ?_
            refine gCallVJ X2 hx hZ (y := (⟨"java/lang/String", "length", "()I"⟩ : MethodName)) hown e2 (by rw [hml]; rfl) E (hw _ (List.mem_of_getElem? (i := 27) rfl)) (hw _ (List.mem_of_getElem? (i := 28) rfl)) (hw _ (List.mem_of_getElem? (i := 30) rfl)) (hw _ (List.mem_of_getElem? (i := 29) rfl)) (hw _ (List.mem_of_getElem? (i := 4) rfl)) (hw _ (List.mem_of_getElem? (i := 31) rfl)) (by decide) (argsL := []) (st := [(.int (1 : Int32))]) (c_length_3 l Z a0 hw a t ck c0 c1 c2 h0 hCpt E C V A hc0 hc1 hc2) (lenOf pd_1 rfl) (hb hby d_prog_7_method_12_6) (pc' := 9) rfl rfl rfl rfl (by decide) (W := 1) (Nat.le_of_eq rfl) (by decide) (by decide) (by decide) ?_
            intro T33 X33 e33
            refine gIcmpGe X33 hx (hb hby d_prog_7_method_12_9) (pc' := 52) (by decide) (by decide) (pn := 12) rfl (fun (c9' : (3 : Int) ≤ (1 : Int)) => ?_) (fun (c9' : (1 : Int) < (3 : Int)) => ?_)
            · exact absurd c9' (by decide)
            · refine gLoadAN X33 hx (hb hby d_prog_7_method_12_12) (pc' := 13) rfl rfl rfl ?_
              refine gLoadIN X33 hx (hb hby d_prog_7_method_12_13) (pc' := 14) rfl rfl ?_
              refine gCallVJ X33 hx hZ (y := (⟨"java/lang/String", "charAt", "(I)C"⟩ : MethodName)) hown e33 (by rw [hml]; rfl) E (hw _ (List.mem_of_getElem? (i := 52) rfl)) (hw _ (List.mem_of_getElem? (i := 53) rfl)) (hw _ (List.mem_of_getElem? (i := 55) rfl)) (hw _ (List.mem_of_getElem? (i := 54) rfl)) (hw _ (List.mem_of_getElem? (i := 4) rfl)) (hw _ (List.mem_of_getElem? (i := 56) rfl)) (by decide) (argsL := [(.int (1 : Int32))]) (st := []) (c_charAt_1_3 l Z a0 hw a t ck c0 c1 c2 h0 hSio hCpt E C V A hc0 hc1 hc2) (lenOf pd_5 rfl) (hb hby d_prog_7_method_12_14) (pc' := 17) rfl rfl rfl rfl (by decide) (W := 0) (Nat.le_of_eq rfl) (by decide) (by decide) (by decide) ?_
              intro T34 X34 e34
              refine gStoreIN X34 hx (hb hby d_prog_7_method_12_17) (l' := #[.val (.ref a), .val (.int (1 : Int32)), .val (.int (1 : Int32)), .val (.int c1)]) (pc' := 18) rfl rfl ?_
              refine gLoadIN X34 hx (hb hby d_prog_7_method_12_18) (pc' := 19) rfl rfl ?_
              refine gIfEqT X34 hx (hb hby d_prog_7_method_12_19) (pc' := 44) (by decide) (by decide) (pn := 22) rfl (fun (c19' : (1 : Int) = (0 : Int)) => ?_) (fun (c19' : ¬ (1 : Int) = (0 : Int)) => ?_)
              · exact absurd c19' (by decide)
              · refine gLoadIN X34 hx (hb hby d_prog_7_method_12_22) (pc' := 23) rfl rfl ?_
                refine gBipush X34 hx (v := (32 : Int32)) (hb hby d_prog_7_method_12_23) (pc' := 25) rfl rfl ?_
                refine gIcmpGe X34 hx (hb hby d_prog_7_method_12_25) (pc' := 34) (by decide) (by decide) (pn := 28) rfl (fun (c25' : (32 : Int) ≤ c1.toInt) => ?_) (fun (c25' : c1.toInt < (32 : Int)) => ?_)
                · refine gLoadIN X34 hx (hb hby d_prog_7_method_12_34) (pc' := 35) rfl rfl ?_
                  refine gBipush X34 hx (v := (127 : Int32)) (hb hby d_prog_7_method_12_35) (pc' := 37) rfl rfl ?_
                  refine gIcmpEqT X34 hx (hb hby d_prog_7_method_12_37) (pc' := 44) (by decide) (by decide) (pn := 40) rfl (fun (c37' : c1.toInt = (127 : Int)) => ?_) (fun (c37' : ¬ c1.toInt = (127 : Int)) => ?_)
                  · refine gIconst X34 hx (v := (0 : Int32)) (hb hby d_prog_7_method_12_44) (pc' := 45) rfl rfl ?_
                    refine gStoreIN X34 hx (hb hby d_prog_7_method_12_45) (l' := #[.val (.ref a), .val (.int (0 : Int32)), .val (.int (1 : Int32)), .val (.int c1)]) (pc' := 46) rfl rfl ?_
                    refine gIinc X34 hx (v := (1 : Int32)) (hb hby d_prog_7_method_12_46) (l' := #[.val (.ref a), .val (.int (0 : Int32)), .val (.int (2 : Int32)), .val (.int c1)]) (pc' := 49) rfl rfl rfl rfl ?_
                    refine gGoto X34 hx (hb hby d_prog_7_method_12_49) (pc' := 4) (by decide) (by decide) ?_
                    refine gLoadIN X34 hx (hb hby d_prog_7_method_12_4) (pc' := 5) rfl rfl ?_
                    refine gLoadAN X34 hx (hb hby d_prog_7_method_12_5) (pc' := 6) rfl rfl rfl ?_
                    refine gCallVJ X34 hx hZ (y := (⟨"java/lang/String", "length", "()I"⟩ : MethodName)) hown e34 (by rw [hml]; rfl) E (hw _ (List.mem_of_getElem? (i := 27) rfl)) (hw _ (List.mem_of_getElem? (i := 28) rfl)) (hw _ (List.mem_of_getElem? (i := 30) rfl)) (hw _ (List.mem_of_getElem? (i := 29) rfl)) (hw _ (List.mem_of_getElem? (i := 4) rfl)) (hw _ (List.mem_of_getElem? (i := 31) rfl)) (by decide) (argsL := []) (st := [(.int (2 : Int32))]) (c_length_3 l Z a0 hw a t ck c0 c1 c2 h0 hCpt E C V A hc0 hc1 hc2) (lenOf pd_1 rfl) (hb hby d_prog_7_method_12_6) (pc' := 9) rfl rfl rfl rfl (by decide) (W := 1) (Nat.le_of_eq rfl) (by decide) (by decide) (by decide) ?_
                    intro T35 X35 e35
                    refine gIcmpGe X35 hx (hb hby d_prog_7_method_12_9) (pc' := 52) (by decide) (by decide) (pn := 12) rfl (fun (c9'' : (3 : Int) ≤ (2 : Int)) => ?_) (fun (c9'' : (2 : Int) < (3 : Int)) => ?_)
                    · exact absurd c9'' (by decide)
                    · refine gLoadAN X35 hx (hb hby d_prog_7_method_12_12) (pc' := 13) rfl rfl rfl ?_
                      refine gLoadIN X35 hx (hb hby d_prog_7_method_12_13) (pc' := 14) rfl rfl ?_
                      refine gCallVJ X35 hx hZ (y := (⟨"java/lang/String", "charAt", "(I)C"⟩ : MethodName)) hown e35 (by rw [hml]; rfl) E (hw _ (List.mem_of_getElem? (i := 52) rfl)) (hw _ (List.mem_of_getElem? (i := 53) rfl)) (hw _ (List.mem_of_getElem? (i := 55) rfl)) (hw _ (List.mem_of_getElem? (i := 54) rfl)) (hw _ (List.mem_of_getElem? (i := 4) rfl)) (hw _ (List.mem_of_getElem? (i := 56) rfl)) (by decide) (argsL := [(.int (2 : Int32))]) (st := []) (c_charAt_2_3 l Z a0 hw a t ck c0 c1 c2 h0 hSio hCpt E C V A hc0 hc1 hc2) (lenOf pd_5 rfl) (hb hby d_prog_7_method_12_14) (pc' := 17) rfl rfl rfl rfl (by decide) (W := 0) (Nat.le_of_eq rfl) (by decide) (by decide) (by decide) ?_
                      intro T36 X36 e36
                      refine gStoreIN X36 hx (hb hby d_prog_7_method_12_17) (l' := #[.val (.ref a), .val (.int (0 : Int32)), .val (.int (2 : Int32)), .val (.int c2)]) (pc' := 18) rfl rfl ?_
                      refine gLoadIN X36 hx (hb hby d_prog_7_method_12_18) (pc' := 19) rfl rfl ?_
                      refine gIfEqT X36 hx (hb hby d_prog_7_method_12_19) (pc' := 44) (by decide) (by decide) (pn := 22) rfl (fun (c19'' : (0 : Int) = (0 : Int)) => ?_) (fun (c19'' : ¬ (0 : Int) = (0 : Int)) => ?_)
                      · refine gIconst X36 hx (v := (0 : Int32)) (hb hby d_prog_7_method_12_44) (pc' := 45) rfl rfl ?_
                        refine gStoreIN X36 hx (hb hby d_prog_7_method_12_45) (l' := #[.val (.ref a), .val (.int (0 : Int32)), .val (.int (2 : Int32)), .val (.int c2)]) (pc' := 46) rfl rfl ?_
                        refine gIinc X36 hx (v := (1 : Int32)) (hb hby d_prog_7_method_12_46) (l' := #[.val (.ref a), .val (.int (0 : Int32)), .val (.int (3 : Int32)), .val (.int c2)]) (pc' := 49) rfl rfl rfl rfl ?_
                        refine gGoto X36 hx (hb hby d_prog_7_method_12_49) (pc' := 4) (by decide) (by decide) ?_
                        refine gLoadIN X36 hx (hb hby d_prog_7_method_12_4) (pc' := 5) rfl rfl ?_
                        refine gLoadAN X36 hx (hb hby d_prog_7_method_12_5) (pc' := 6) rfl rfl rfl ?_
                        refine gCallVJ X36 hx hZ (y := (⟨"java/lang/String", "length", "()I"⟩ : MethodName)) hown e36 (by rw [hml]; rfl) E (hw _ (List.mem_of_getElem? (i := 27) rfl)) (hw _ (List.mem_of_getElem? (i := 28) rfl)) (hw _ (List.mem_of_getElem? (i := 30) rfl)) (hw _ (List.mem_of_getElem? (i := 29) rfl)) (hw _ (List.mem_of_getElem? (i := 4) rfl)) (hw _ (List.mem_of_getElem? (i := 31) rfl)) (by decide) (argsL := []) (st := [(.int (3 : Int32))]) (c_length_3 l Z a0 hw a t ck c0 c1 c2 h0 hCpt E C V A hc0 hc1 hc2) (lenOf pd_1 rfl) (hb hby d_prog_7_method_12_6) (pc' := 9) rfl rfl rfl rfl (by decide) (W := 1) (Nat.le_of_eq rfl) (by decide) (by decide) (by decide) ?_
                        intro T37 X37 e37
                        refine gIcmpGe X37 hx (hb hby d_prog_7_method_12_9) (pc' := 52) (by decide) (by decide) (pn := 12) rfl (fun (c9''' : (3 : Int) ≤ (3 : Int)) => ?_) (fun (c9''' : (3 : Int) < (3 : Int)) => ?_)
                        · refine gLoadIN X37 hx (hb hby d_prog_7_method_12_52) (pc' := 53) rfl rfl ?_
                          exact gRetN X37 hx hlk hret (by simp) (hb hby d_prog_7_method_12_53) (w := (0 : Int32)) rfl (by decide) (by decide) (just_f (by omega) e37)
                        · exact absurd c9''' (by decide)
                      · exact absurd c19'' (by decide)
                  · refine gIconst X34 hx (v := (1 : Int32)) (hb hby d_prog_7_method_12_40) (pc' := 41) rfl rfl ?_
                    refine gGoto X34 hx (hb hby d_prog_7_method_12_41) (pc' := 45) (by decide) (by decide) ?_
                    refine gStoreIN X34 hx (hb hby d_prog_7_method_12_45) (l' := #[.val (.ref a), .val (.int (1 : Int32)), .val (.int (1 : Int32)), .val (.int c1)]) (pc' := 46) rfl rfl ?_
                    refine gIinc X34 hx (v := (1 : Int32)) (hb hby d_prog_7_method_12_46) (l' := #[.val (.ref a), .val (.int (1 : Int32)), .val (.int (2 : Int32)), .val (.int c1)]) (pc' := 49) rfl rfl rfl rfl ?_
                    refine gGoto X34 hx (hb hby d_prog_7_method_12_49) (pc' := 4) (by decide) (by decide) ?_
                    refine gLoadIN X34 hx (hb hby d_prog_7_method_12_4) (pc' := 5) rfl rfl ?_
                    refine gLoadAN X34 hx (hb hby d_prog_7_method_12_5) (pc' := 6) rfl rfl rfl ?_
                    refine gCallVJ X34 hx hZ (y := (⟨"java/lang/String", "length", "()I"⟩ : MethodName)) hown e34 (by rw [hml]; rfl) E (hw _ (List.mem_of_getElem? (i := 27) rfl)) (hw _ (List.mem_of_getElem? (i := 28) rfl)) (hw _ (List.mem_of_getElem? (i := 30) rfl)) (hw _ (List.mem_of_getElem? (i := 29) rfl)) (hw _ (List.mem_of_getElem? (i := 4) rfl)) (hw _ (List.mem_of_getElem? (i := 31) rfl)) (by decide) (argsL := []) (st := [(.int (2 : Int32))]) (c_length_3 l Z a0 hw a t ck c0 c1 c2 h0 hCpt E C V A hc0 hc1 hc2) (lenOf pd_1 rfl) (hb hby d_prog_7_method_12_6) (pc' := 9) rfl rfl rfl rfl (by decide) (W := 1) (Nat.le_of_eq rfl) (by decide) (by decide) (by decide) ?_
                    intro T38 X38 e38
                    refine gIcmpGe X38 hx (hb hby d_prog_7_method_12_9) (pc' := 52) (by decide) (by decide) (pn := 12) rfl (fun (c9'' : (3 : Int) ≤ (2 : Int)) => ?_) (fun (c9'' : (2 : Int) < (3 : Int)) => ?_)
                    · exact absurd c9'' (by decide)
                    · refine gLoadAN X38 hx (hb hby d_prog_7_method_12_12) (pc' := 13) rfl rfl rfl ?_
                      refine gLoadIN X38 hx (hb hby d_prog_7_method_12_13) (pc' := 14) rfl rfl ?_
                      refine gCallVJ X38 hx hZ (y := (⟨"java/lang/String", "charAt", "(I)C"⟩ : MethodName)) hown e38 (by rw [hml]; rfl) E (hw _ (List.mem_of_getElem? (i := 52) rfl)) (hw _ (List.mem_of_getElem? (i := 53) rfl)) (hw _ (List.mem_of_getElem? (i := 55) rfl)) (hw _ (List.mem_of_getElem? (i := 54) rfl)) (hw _ (List.mem_of_getElem? (i := 4) rfl)) (hw _ (List.mem_of_getElem? (i := 56) rfl)) (by decide) (argsL := [(.int (2 : Int32))]) (st := []) (c_charAt_2_3 l Z a0 hw a t ck c0 c1 c2 h0 hSio hCpt E C V A hc0 hc1 hc2) (lenOf pd_5 rfl) (hb hby d_prog_7_method_12_14) (pc' := 17) rfl rfl rfl rfl (by decide) (W := 0) (Nat.le_of_eq rfl) (by decide) (by decide) (by decide) ?_
                      intro T39 X39 e39
                      refine gStoreIN X39 hx (hb hby d_prog_7_method_12_17) (l' := #[.val (.ref a), .val (.int (1 : Int32)), .val (.int (2 : Int32)), .val (.int c2)]) (pc' := 18) rfl rfl ?_
                      refine gLoadIN X39 hx (hb hby d_prog_7_method_12_18) (pc' := 19) rfl rfl ?_
                      refine gIfEqT X39 hx (hb hby d_prog_7_method_12_19) (pc' := 44) (by decide) (by decide) (pn := 22) rfl (fun (c19'' : (1 : Int) = (0 : Int)) => ?_) (fun (c19'' : ¬ (1 : Int) = (0 : Int)) => ?_)
                      · exact absurd c19'' (by decide)
                      · refine gLoadIN X39 hx (hb hby d_prog_7_method_12_22) (pc' := 23) rfl rfl ?_
                        refine gBipush X39 hx (v := (32 : Int32)) (hb hby d_prog_7_method_12_23) (pc' := 25) rfl rfl ?_
                        refine gIcmpGe X39 hx (hb hby d_prog_7_method_12_25) (pc' := 34) (by decide) (by decide) (pn := 28) rfl (fun (c25'' : (32 : Int) ≤ c2.toInt) => ?_) (fun (c25'' : c2.toInt < (32 : Int)) => ?_)
                        · refine gLoadIN X39 hx (hb hby d_prog_7_method_12_34) (pc' := 35) rfl rfl ?_
                          refine gBipush X39 hx (v := (127 : Int32)) (hb hby d_prog_7_method_12_35) (pc' := 37) rfl rfl ?_
                          refine gIcmpEqT X39 hx (hb hby d_prog_7_method_12_37) (pc' := 44) (by decide) (by decide) (pn := 40) rfl (fun (c37'' : c2.toInt = (127 : Int)) => ?_) (fun (c37'' : ¬ c2.toInt = (127 : Int)) => ?_)
                          · refine gIconst X39 hx (v := (0 : Int32)) (hb hby d_prog_7_method_12_44) (pc' := 45) rfl rfl ?_
                            refine gStoreIN X39 hx (hb hby d_prog_7_method_12_45) (l' := #[.val (.ref a), .val (.int (0 : Int32)), .val (.int (2 : Int32)), .val (.int c2)]) (pc' := 46) rfl rfl ?_
                            refine gIinc X39 hx (v := (1 : Int32)) (hb hby d_prog_7_method_12_46) (l' := #[.val (.ref a), .val (.int (0 : Int32)), .val (.int (3 : Int32)), .val (.int c2)]) (pc' := 49) rfl rfl rfl rfl ?_
                            refine gGoto X39 hx (hb hby d_prog_7_method_12_49) (pc' := 4) (by decide) (by decide) ?_
                            refine gLoadIN X39 hx (hb hby d_prog_7_method_12_4) (pc' := 5) rfl rfl ?_
                            refine gLoadAN X39 hx (hb hby d_prog_7_method_12_5) (pc' := 6) rfl rfl rfl ?_
                            refine gCallVJ X39 hx hZ (y := (⟨"java/lang/String", "length", "()I"⟩ : MethodName)) hown e39 (by rw [hml]; rfl) E (hw _ (List.mem_of_getElem? (i := 27) rfl)) (hw _ (List.mem_of_getElem? (i := 28) rfl)) (hw _ (List.mem_of_getElem? (i := 30) rfl)) (hw _ (List.mem_of_getElem? (i := 29) rfl)) (hw _ (List.mem_of_getElem? (i := 4) rfl)) (hw _ (List.mem_of_getElem? (i := 31) rfl)) (by decide) (argsL := []) (st := [(.int (3 : Int32))]) (c_length_3 l Z a0 hw a t ck c0 c1 c2 h0 hCpt E C V A hc0 hc1 hc2) (lenOf pd_1 rfl) (hb hby d_prog_7_method_12_6) (pc' := 9) rfl rfl rfl rfl (by decide) (W := 1) (Nat.le_of_eq rfl) (by decide) (by decide) (by decide) ?_
                            intro T40 X40 e40
                            refine gIcmpGe X40 hx (hb hby d_prog_7_method_12_9) (pc' := 52) (by decide) (by decide) (pn := 12) rfl (fun (c9''' : (3 : Int) ≤ (3 : Int)) => ?_) (fun (c9''' : (3 : Int) < (3 : Int)) => ?_)
                            · refine gLoadIN X40 hx (hb hby d_prog_7_method_12_52) (pc' := 53) rfl rfl ?_
                              exact gRetN X40 hx hlk hret (by simp) (hb hby d_prog_7_method_12_53) (w := (0 : Int32)) rfl (by decide) (by decide) (just_f (by omega) e40)
                            · exact absurd c9''' (by decide)
                          · refine gIconst X39 hx (v := (1 : Int32)) (hb hby d_prog_7_method_12_40) (pc' := 41) rfl rfl ?_
                            refine gGoto X39 hx (hb hby d_prog_7_method_12_41) (pc' := 45) (by decide) (by decide) ?_
                            refine gStoreIN X39 hx (hb hby d_prog_7_method_12_45) (l' := #[.val (.ref a), .val (.int (1 : Int32)), .val (.int (2 : Int32)), .val (.int c2)]) (pc' := 46) rfl rfl ?_
                            refine gIinc X39 hx (v := (1 : Int32)) (hb hby d_prog_7_method_12_46) (l' := #[.val (.ref a), .val (.int (1 : Int32)), .val (.int (3 : Int32)), .val (.int c2)]) (pc' := 49) rfl rfl rfl rfl ?_
                            refine gGoto X39 hx (hb hby d_prog_7_method_12_49) (pc' := 4) (by decide) (by decide) ?_
                            refine gLoadIN X39 hx (hb hby d_prog_7_method_12_4) (pc' := 5) rfl rfl ?_
                            refine gLoadAN X39 hx (hb hby d_prog_7_method_12_5) (pc' := 6) rfl rfl rfl ?_
                            refine gCallVJ X39 hx hZ (y := (⟨"java/lang/String", "length", "()I"⟩ : MethodName)) hown e39 (by rw [hml]; rfl) E (hw _ (List.mem_of_getElem? (i := 27) rfl)) (hw _ (List.mem_of_getElem? (i := 28) rfl)) (hw _ (List.mem_of_getElem? (i := 30) rfl)) (hw _ (List.mem_of_getElem? (i := 29) rfl)) (hw _ (List.mem_of_getElem? (i := 4) rfl)) (hw _ (List.mem_of_getElem? (i := 31) rfl)) (by decide) (argsL := []) (st := [(.int (3 : Int32))]) (c_length_3 l Z a0 hw a t ck c0 c1 c2 h0 hCpt E C V A hc0 hc1 hc2) (lenOf pd_1 rfl) (hb hby d_prog_7_method_12_6) (pc' := 9) rfl rfl rfl rfl (by decide) (W := 1) (Nat.le_of_eq rfl) (by decide) (by decide) (by decide) ?_
                            intro T41 X41 e41
                            refine gIcmpGe X41 hx (hb hby d_prog_7_method_12_9) (pc' := 52) (by decide) (by decide) (pn := 12) rfl (fun (c9''' : (3 : Int) ≤ (3 : Int)) => ?_) (fun (c9''' : (3 : Int) < (3 : Int)) => ?_)
                            · refine gLoadIN X41 hx (hb hby d_prog_7_method_12_52) (pc' := 53) rfl rfl ?_
                              exact gRetN X41 hx hlk hret (by simp) (hb hby d_prog_7_method_12_53) (w := (1 : Int32)) rfl (by decide) (by decide) (just_t (by omega) e41)
                            · exact absurd c9''' (by decide)
                        · refine gLoadIN X39 hx (hb hby d_prog_7_method_12_28) (pc' := 29) rfl rfl ?_
                          refine gBipush X39 hx (v := (9 : Int32)) (hb hby d_prog_7_method_12_29) (pc' := 31) rfl rfl ?_
                          refine gIcmpNeT X39 hx (hb hby d_prog_7_method_12_31) (pc' := 44) (by decide) (by decide) (pn := 34) rfl (fun (c31' : ¬ c2.toInt = (9 : Int)) => ?_) (fun (c31' : c2.toInt = (9 : Int)) => ?_)
                          · refine gIconst X39 hx (v := (0 : Int32)) (hb hby d_prog_7_method_12_44) (pc' := 45) rfl rfl ?_
                            refine gStoreIN X39 hx (hb hby d_prog_7_method_12_45) (l' := #[.val (.ref a), .val (.int (0 : Int32)), .val (.int (2 : Int32)), .val (.int c2)]) (pc' := 46) rfl rfl ?_
                            refine gIinc X39 hx (v := (1 : Int32)) (hb hby d_prog_7_method_12_46) (l' := #[.val (.ref a), .val (.int (0 : Int32)), .val (.int (3 : Int32)), .val (.int c2)]) (pc' := 49) rfl rfl rfl rfl ?_
                            refine gGoto X39 hx (hb hby d_prog_7_method_12_49) (pc' := 4) (by decide) (by decide) ?_
                            refine gLoadIN X39 hx (hb hby d_prog_7_method_12_4) (pc' := 5) rfl rfl ?_
                            refine gLoadAN X39 hx (hb hby d_prog_7_method_12_5) (pc' := 6) rfl rfl rfl ?_
                            refine gCallVJ X39 hx hZ (y := (⟨"java/lang/String", "length", "()I"⟩ : MethodName)) hown e39 (by rw [hml]; rfl) E (hw _ (List.mem_of_getElem? (i := 27) rfl)) (hw _ (List.mem_of_getElem? (i := 28) rfl)) (hw _ (List.mem_of_getElem? (i := 30) rfl)) (hw _ (List.mem_of_getElem? (i := 29) rfl)) (hw _ (List.mem_of_getElem? (i := 4) rfl)) (hw _ (List.mem_of_getElem? (i := 31) rfl)) (by decide) (argsL := []) (st := [(.int (3 : Int32))]) (c_length_3 l Z a0 hw a t ck c0 c1 c2 h0 hCpt E C V A hc0 hc1 hc2) (lenOf pd_1 rfl) (hb hby d_prog_7_method_12_6) (pc' := 9) rfl rfl rfl rfl (by decide) (W := 1) (Nat.le_of_eq rfl) (by decide) (by decide) (by decide) ?_
                            intro T42 X42 e42
                            refine gIcmpGe X42 hx (hb hby d_prog_7_method_12_9) (pc' := 52) (by decide) (by decide) (pn := 12) rfl (fun (c9''' : (3 : Int) ≤ (3 : Int)) => ?_) (fun (c9''' : (3 : Int) < (3 : Int)) => ?_)
                            · refine gLoadIN X42 hx (hb hby d_prog_7_method_12_52) (pc' := 53) rfl rfl ?_
                              exact gRetN X42 hx hlk hret (by simp) (hb hby d_prog_7_method_12_53) (w := (0 : Int32)) rfl (by decide) (by decide) (just_f (by omega) e42)
                            · exact absurd c9''' (by decide)
                          · refine gLoadIN X39 hx (hb hby d_prog_7_method_12_34) (pc' := 35) rfl rfl ?_
                            refine gBipush X39 hx (v := (127 : Int32)) (hb hby d_prog_7_method_12_35) (pc' := 37) rfl rfl ?_
                            refine gIcmpEqT X39 hx (hb hby d_prog_7_method_12_37) (pc' := 44) (by decide) (by decide) (pn := 40) rfl (fun (c37'' : c2.toInt = (127 : Int)) => ?_) (fun (c37'' : ¬ c2.toInt = (127 : Int)) => ?_)
                            · exact absurd c37'' (by omega)
                            · refine gIconst X39 hx (v := (1 : Int32)) (hb hby d_prog_7_method_12_40) (pc' := 41) rfl rfl ?_
                              refine gGoto X39 hx (hb hby d_prog_7_method_12_41) (pc' := 45) (by decide) (by decide) ?_
                              refine gStoreIN X39 hx (hb hby d_prog_7_method_12_45) (l' := #[.val (.ref a), .val (.int (1 : Int32)), .val (.int (2 : Int32)), .val (.int c2)]) (pc' := 46) rfl rfl ?_
                              refine gIinc X39 hx (v := (1 : Int32)) (hb hby d_prog_7_method_12_46) (l' := #[.val (.ref a), .val (.int (1 : Int32)), .val (.int (3 : Int32)), .val (.int c2)]) (pc' := 49) rfl rfl rfl rfl ?_
                              refine gGoto X39 hx (hb hby d_prog_7_method_12_49) (pc' := 4) (by decide) (by decide) ?_
                              refine gLoadIN X39 hx (hb hby d_prog_7_method_12_4) (pc' := 5) rfl rfl ?_
                              refine gLoadAN X39 hx (hb hby d_prog_7_method_12_5) (pc' := 6) rfl rfl rfl ?_
                              refine gCallVJ X39 hx hZ (y := (⟨"java/lang/String", "length", "()I"⟩ : MethodName)) hown e39 (by rw [hml]; rfl) E (hw _ (List.mem_of_getElem? (i := 27) rfl)) (hw _ (List.mem_of_getElem? (i := 28) rfl)) (hw _ (List.mem_of_getElem? (i := 30) rfl)) (hw _ (List.mem_of_getElem? (i := 29) rfl)) (hw _ (List.mem_of_getElem? (i := 4) rfl)) (hw _ (List.mem_of_getElem? (i := 31) rfl)) (by decide) (argsL := []) (st := [(.int (3 : Int32))]) (c_length_3 l Z a0 hw a t ck c0 c1 c2 h0 hCpt E C V A hc0 hc1 hc2) (lenOf pd_1 rfl) (hb hby d_prog_7_method_12_6) (pc' := 9) rfl rfl rfl rfl (by decide) (W := 1) (Nat.le_of_eq rfl) (by decide) (by decide) (by decide) ?_
                              intro T43 X43 e43
                              refine gIcmpGe X43 hx (hb hby d_prog_7_method_12_9) (pc' := 52) (by decide) (by decide) (pn := 12) rfl (fun (c9''' : (3 : Int) ≤ (3 : Int)) => ?_) (fun (c9''' : (3 : Int) < (3 : Int)) => ?_)
                              · refine gLoadIN X43 hx (hb hby d_prog_7_method_12_52) (pc' := 53) rfl rfl ?_
                                exact gRetN X43 hx hlk hret (by simp) (hb hby d_prog_7_method_12_53) (w := (1 : Int32)) rfl (by decide) (by decide) (just_t (by omega) e43)
                              · exact absurd c9''' (by decide)
                · refine gLoadIN X34 hx (hb hby d_prog_7_method_12_28) (pc' := 29) rfl rfl ?_
                  refine gBipush X34 hx (v := (9 : Int32)) (hb hby d_prog_7_method_12_29) (pc' := 31) rfl rfl ?_
                  refine gIcmpNeT X34 hx (hb hby d_prog_7_method_12_31) (pc' := 44) (by decide) (by decide) (pn := 34) rfl (fun (c31' : ¬ c1.toInt = (9 : Int)) => ?_) (fun (c31' : c1.toInt = (9 : Int)) => ?_)
                  · refine gIconst X34 hx (v := (0 : Int32)) (hb hby d_prog_7_method_12_44) (pc' := 45) rfl rfl ?_
                    refine gStoreIN X34 hx (hb hby d_prog_7_method_12_45) (l' := #[.val (.ref a), .val (.int (0 : Int32)), .val (.int (1 : Int32)), .val (.int c1)]) (pc' := 46) rfl rfl ?_
                    refine gIinc X34 hx (v := (1 : Int32)) (hb hby d_prog_7_method_12_46) (l' := #[.val (.ref a), .val (.int (0 : Int32)), .val (.int (2 : Int32)), .val (.int c1)]) (pc' := 49) rfl rfl rfl rfl ?_
                    refine gGoto X34 hx (hb hby d_prog_7_method_12_49) (pc' := 4) (by decide) (by decide) ?_
                    refine gLoadIN X34 hx (hb hby d_prog_7_method_12_4) (pc' := 5) rfl rfl ?_
                    refine gLoadAN X34 hx (hb hby d_prog_7_method_12_5) (pc' := 6) rfl rfl rfl ?_
                    refine gCallVJ X34 hx hZ (y := (⟨"java/lang/String", "length", "()I"⟩ : MethodName)) hown e34 (by rw [hml]; rfl) E (hw _ (List.mem_of_getElem? (i := 27) rfl)) (hw _ (List.mem_of_getElem? (i := 28) rfl)) (hw _ (List.mem_of_getElem? (i := 30) rfl)) (hw _ (List.mem_of_getElem? (i := 29) rfl)) (hw _ (List.mem_of_getElem? (i := 4) rfl)) (hw _ (List.mem_of_getElem? (i := 31) rfl)) (by decide) (argsL := []) (st := [(.int (2 : Int32))]) (c_length_3 l Z a0 hw a t ck c0 c1 c2 h0 hCpt E C V A hc0 hc1 hc2) (lenOf pd_1 rfl) (hb hby d_prog_7_method_12_6) (pc' := 9) rfl rfl rfl rfl (by decide) (W := 1) (Nat.le_of_eq rfl) (by decide) (by decide) (by decide) ?_
                    intro T44 X44 e44
                    refine gIcmpGe X44 hx (hb hby d_prog_7_method_12_9) (pc' := 52) (by decide) (by decide) (pn := 12) rfl (fun (c9'' : (3 : Int) ≤ (2 : Int)) => ?_) (fun (c9'' : (2 : Int) < (3 : Int)) => ?_)
                    · exact absurd c9'' (by decide)
                    · refine gLoadAN X44 hx (hb hby d_prog_7_method_12_12) (pc' := 13) rfl rfl rfl ?_
                      refine gLoadIN X44 hx (hb hby d_prog_7_method_12_13) (pc' := 14) rfl rfl ?_
                      refine gCallVJ X44 hx hZ (y := (⟨"java/lang/String", "charAt", "(I)C"⟩ : MethodName)) hown e44 (by rw [hml]; rfl) E (hw _ (List.mem_of_getElem? (i := 52) rfl)) (hw _ (List.mem_of_getElem? (i := 53) rfl)) (hw _ (List.mem_of_getElem? (i := 55) rfl)) (hw _ (List.mem_of_getElem? (i := 54) rfl)) (hw _ (List.mem_of_getElem? (i := 4) rfl)) (hw _ (List.mem_of_getElem? (i := 56) rfl)) (by decide) (argsL := [(.int (2 : Int32))]) (st := []) (c_charAt_2_3 l Z a0 hw a t ck c0 c1 c2 h0 hSio hCpt E C V A hc0 hc1 hc2) (lenOf pd_5 rfl) (hb hby d_prog_7_method_12_14) (pc' := 17) rfl rfl rfl rfl (by decide) (W := 0) (Nat.le_of_eq rfl) (by decide) (by decide) (by decide) ?_
                      intro T45 X45 e45
                      refine gStoreIN X45 hx (hb hby d_prog_7_method_12_17) (l' := #[.val (.ref a), .val (.int (0 : Int32)), .val (.int (2 : Int32)), .val (.int c2)]) (pc' := 18) rfl rfl ?_
                      refine gLoadIN X45 hx (hb hby d_prog_7_method_12_18) (pc' := 19) rfl rfl ?_
                      refine gIfEqT X45 hx (hb hby d_prog_7_method_12_19) (pc' := 44) (by decide) (by decide) (pn := 22) rfl (fun (c19'' : (0 : Int) = (0 : Int)) => ?_) (fun (c19'' : ¬ (0 : Int) = (0 : Int)) => ?_)
                      · refine gIconst X45 hx (v := (0 : Int32)) (hb hby d_prog_7_method_12_44) (pc' := 45) rfl rfl ?_
                        refine gStoreIN X45 hx (hb hby d_prog_7_method_12_45) (l' := #[.val (.ref a), .val (.int (0 : Int32)), .val (.int (2 : Int32)), .val (.int c2)]) (pc' := 46) rfl rfl ?_
                        refine gIinc X45 hx (v := (1 : Int32)) (hb hby d_prog_7_method_12_46) (l' := #[.val (.ref a), .val (.int (0 : Int32)), .val (.int (3 : Int32)), .val (.int c2)]) (pc' := 49) rfl rfl rfl rfl ?_
                        refine gGoto X45 hx (hb hby d_prog_7_method_12_49) (pc' := 4) (by decide) (by decide) ?_
                        refine gLoadIN X45 hx (hb hby d_prog_7_method_12_4) (pc' := 5) rfl rfl ?_
                        refine gLoadAN X45 hx (hb hby d_prog_7_method_12_5) (pc' := 6) rfl rfl rfl ?_
                        refine gCallVJ X45 hx hZ (y := (⟨"java/lang/String", "length", "()I"⟩ : MethodName)) hown e45 (by rw [hml]; rfl) E (hw _ (List.mem_of_getElem? (i := 27) rfl)) (hw _ (List.mem_of_getElem? (i := 28) rfl)) (hw _ (List.mem_of_getElem? (i := 30) rfl)) (hw _ (List.mem_of_getElem? (i := 29) rfl)) (hw _ (List.mem_of_getElem? (i := 4) rfl)) (hw _ (List.mem_of_getElem? (i := 31) rfl)) (by decide) (argsL := []) (st := [(.int (3 : Int32))]) (c_length_3 l Z a0 hw a t ck c0 c1 c2 h0 hCpt E C V A hc0 hc1 hc2) (lenOf pd_1 rfl) (hb hby d_prog_7_method_12_6) (pc' := 9) rfl rfl rfl rfl (by decide) (W := 1) (Nat.le_of_eq rfl) (by decide) (by decide) (by decide) ?_
                        intro T46 X46 e46
                        refine gIcmpGe X46 hx (hb hby d_prog_7_method_12_9) (pc' := 52) (by decide) (by decide) (pn := 12) rfl (fun (c9''' : (3 : Int) ≤ (3 : Int)) => ?_) (fun (c9''' : (3 : Int) < (3 : Int)) => ?_)
                        · refine gLoadIN X46 hx (hb hby d_prog_7_method_12_52) (pc' := 53) rfl rfl ?_
                          exact gRetN X46 hx hlk hret (by simp) (hb hby d_prog_7_method_12_53) (w := (0 : Int32)) rfl (by decide) (by decide) (just_f (by omega) e46)
                        · exact absurd c9''' (by decide)
                      · exact absurd c19'' (by decide)
                  · refine gLoadIN X34 hx (hb hby d_prog_7_method_12_34) (pc' := 35) rfl rfl ?_
                    refine gBipush X34 hx (v := (127 : Int32)) (hb hby d_prog_7_method_12_35) (pc' := 37) rfl rfl ?_
                    refine gIcmpEqT X34 hx (hb hby d_prog_7_method_12_37) (pc' := 44) (by decide) (by decide) (pn := 40) rfl (fun (c37' : c1.toInt = (127 : Int)) => ?_) (fun (c37' : ¬ c1.toInt = (127 : Int)) => ?_)
                    · exact absurd c37' (by omega)
                    · refine gIconst X34 hx (v := (1 : Int32)) (hb hby d_prog_7_method_12_40) (pc' := 41) rfl rfl ?_
                      refine gGoto X34 hx (hb hby d_prog_7_method_12_41) (pc' := 45) (by decide) (by decide) ?_
                      refine gStoreIN X34 hx (hb hby d_prog_7_method_12_45) (l' := #[.val (.ref a), .val (.int (1 : Int32)), .val (.int (1 : Int32)), .val (.int c1)]) (pc' := 46) rfl rfl ?_
                      refine gIinc X34 hx (v := (1 : Int32)) (hb hby d_prog_7_method_12_46) (l' := #[.val (.ref a), .val (.int (1 : Int32)), .val (.int (2 : Int32)), .val (.int c1)]) (pc' := 49) rfl rfl rfl rfl ?_
                      refine gGoto X34 hx (hb hby d_prog_7_method_12_49) (pc' := 4) (by decide) (by decide) ?_
                      refine gLoadIN X34 hx (hb hby d_prog_7_method_12_4) (pc' := 5) rfl rfl ?_
                      refine gLoadAN X34 hx (hb hby d_prog_7_method_12_5) (pc' := 6) rfl rfl rfl ?_
                      refine gCallVJ X34 hx hZ (y := (⟨"java/lang/String", "length", "()I"⟩ : MethodName)) hown e34 (by rw [hml]; rfl) E (hw _ (List.mem_of_getElem? (i := 27) rfl)) (hw _ (List.mem_of_getElem? (i := 28) rfl)) (hw _ (List.mem_of_getElem? (i := 30) rfl)) (hw _ (List.mem_of_getElem? (i := 29) rfl)) (hw _ (List.mem_of_getElem? (i := 4) rfl)) (hw _ (List.mem_of_getElem? (i := 31) rfl)) (by decide) (argsL := []) (st := [(.int (2 : Int32))]) (c_length_3 l Z a0 hw a t ck c0 c1 c2 h0 hCpt E C V A hc0 hc1 hc2) (lenOf pd_1 rfl) (hb hby d_prog_7_method_12_6) (pc' := 9) rfl rfl rfl rfl (by decide) (W := 1) (Nat.le_of_eq rfl) (by decide) (by decide) (by decide) ?_
                      intro T47 X47 e47
                      refine gIcmpGe X47 hx (hb hby d_prog_7_method_12_9) (pc' := 52) (by decide) (by decide) (pn := 12) rfl (fun (c9'' : (3 : Int) ≤ (2 : Int)) => ?_) (fun (c9'' : (2 : Int) < (3 : Int)) => ?_)
                      · exact absurd c9'' (by decide)
                      · refine gLoadAN X47 hx (hb hby d_prog_7_method_12_12) (pc' := 13) rfl rfl rfl ?_
                        refine gLoadIN X47 hx (hb hby d_prog_7_method_12_13) (pc' := 14) rfl rfl ?_
                        refine gCallVJ X47 hx hZ (y := (⟨"java/lang/String", "charAt", "(I)C"⟩ : MethodName)) hown e47 (by rw [hml]; rfl) E (hw _ (List.mem_of_getElem? (i := 52) rfl)) (hw _ (List.mem_of_getElem? (i := 53) rfl)) (hw _ (List.mem_of_getElem? (i := 55) rfl)) (hw _ (List.mem_of_getElem? (i := 54) rfl)) (hw _ (List.mem_of_getElem? (i := 4) rfl)) (hw _ (List.mem_of_getElem? (i := 56) rfl)) (by decide) (argsL := [(.int (2 : Int32))]) (st := []) (c_charAt_2_3 l Z a0 hw a t ck c0 c1 c2 h0 hSio hCpt E C V A hc0 hc1 hc2) (lenOf pd_5 rfl) (hb hby d_prog_7_method_12_14) (pc' := 17) rfl rfl rfl rfl (by decide) (W := 0) (Nat.le_of_eq rfl) (by decide) (by decide) (by decide) ?_
                        intro T48 X48 e48
                        refine gStoreIN X48 hx (hb hby d_prog_7_method_12_17) (l' := #[.val (.ref a), .val (.int (1 : Int32)), .val (.int (2 : Int32)), .val (.int c2)]) (pc' := 18) rfl rfl ?_
                        refine gLoadIN X48 hx (hb hby d_prog_7_method_12_18) (pc' := 19) rfl rfl ?_
                        refine gIfEqT X48 hx (hb hby d_prog_7_method_12_19) (pc' := 44) (by decide) (by decide) (pn := 22) rfl (fun (c19'' : (1 : Int) = (0 : Int)) => ?_) (fun (c19'' : ¬ (1 : Int) = (0 : Int)) => ?_)
                        · exact absurd c19'' (by decide)
                        · refine gLoadIN X48 hx (hb hby d_prog_7_method_12_22) (pc' := 23) rfl rfl ?_
                          refine gBipush X48 hx (v := (32 : Int32)) (hb hby d_prog_7_method_12_23) (pc' := 25) rfl rfl ?_
                          refine gIcmpGe X48 hx (hb hby d_prog_7_method_12_25) (pc' := 34) (by decide) (by decide) (pn := 28) rfl (fun (c25'' : (32 : Int) ≤ c2.toInt) => ?_) (fun (c25'' : c2.toInt < (32 : Int)) => ?_)
                          · refine gLoadIN X48 hx (hb hby d_prog_7_method_12_34) (pc' := 35) rfl rfl ?_
                            refine gBipush X48 hx (v := (127 : Int32)) (hb hby d_prog_7_method_12_35) (pc' := 37) rfl rfl ?_
                            refine gIcmpEqT X48 hx (hb hby d_prog_7_method_12_37) (pc' := 44) (by decide) (by decide) (pn := 40) rfl (fun (c37'' : c2.toInt = (127 : Int)) => ?_) (fun (c37'' : ¬ c2.toInt = (127 : Int)) => ?_)
                            · refine gIconst X48 hx (v := (0 : Int32)) (hb hby d_prog_7_method_12_44) (pc' := 45) rfl rfl ?_
                              refine gStoreIN X48 hx (hb hby d_prog_7_method_12_45) (l' := #[.val (.ref a), .val (.int (0 : Int32)), .val (.int (2 : Int32)), .val (.int c2)]) (pc' := 46) rfl rfl ?_
                              refine gIinc X48 hx (v := (1 : Int32)) (hb hby d_prog_7_method_12_46) (l' := #[.val (.ref a), .val (.int (0 : Int32)), .val (.int (3 : Int32)), .val (.int c2)]) (pc' := 49) rfl rfl rfl rfl ?_
                              refine gGoto X48 hx (hb hby d_prog_7_method_12_49) (pc' := 4) (by decide) (by decide) ?_
                              refine gLoadIN X48 hx (hb hby d_prog_7_method_12_4) (pc' := 5) rfl rfl ?_
                              refine gLoadAN X48 hx (hb hby d_prog_7_method_12_5) (pc' := 6) rfl rfl rfl ?_
                              refine gCallVJ X48 hx hZ (y := (⟨"java/lang/String", "length", "()I"⟩ : MethodName)) hown e48 (by rw [hml]; rfl) E (hw _ (List.mem_of_getElem? (i := 27) rfl)) (hw _ (List.mem_of_getElem? (i := 28) rfl)) (hw _ (List.mem_of_getElem? (i := 30) rfl)) (hw _ (List.mem_of_getElem? (i := 29) rfl)) (hw _ (List.mem_of_getElem? (i := 4) rfl)) (hw _ (List.mem_of_getElem? (i := 31) rfl)) (by decide) (argsL := []) (st := [(.int (3 : Int32))]) (c_length_3 l Z a0 hw a t ck c0 c1 c2 h0 hCpt E C V A hc0 hc1 hc2) (lenOf pd_1 rfl) (hb hby d_prog_7_method_12_6) (pc' := 9) rfl rfl rfl rfl (by decide) (W := 1) (Nat.le_of_eq rfl) (by decide) (by decide) (by decide) ?_
                              intro T49 X49 e49
                              refine gIcmpGe X49 hx (hb hby d_prog_7_method_12_9) (pc' := 52) (by decide) (by decide) (pn := 12) rfl (fun (c9''' : (3 : Int) ≤ (3 : Int)) => ?_) (fun (c9''' : (3 : Int) < (3 : Int)) => ?_)
                              · refine gLoadIN X49 hx (hb hby d_prog_7_method_12_52) (pc' := 53) rfl rfl ?_
                                exact gRetN X49 hx hlk hret (by simp) (hb hby d_prog_7_method_12_53) (w := (0 : Int32)) rfl (by decide) (by decide) (just_f (by omega) e49)
                              · exact absurd c9''' (by decide)
                            · refine gIconst X48 hx (v := (1 : Int32)) (hb hby d_prog_7_method_12_40) (pc' := 41) rfl rfl ?_
                              refine gGoto X48 hx (hb hby d_prog_7_method_12_41) (pc' := 45) (by decide) (by decide) ?_
                              refine gStoreIN X48 hx (hb hby d_prog_7_method_12_45) (l' := #[.val (.ref a), .val (.int (1 : Int32)), .val (.int (2 : Int32)), .val (.int c2)]) (pc' := 46) rfl rfl ?_
                              refine gIinc X48 hx (v := (1 : Int32)) (hb hby d_prog_7_method_12_46) (l' := #[.val (.ref a), .val (.int (1 : Int32)), .val (.int (3 : Int32)), .val (.int c2)]) (pc' := 49) rfl rfl rfl rfl ?_
                              refine gGoto X48 hx (hb hby d_prog_7_method_12_49) (pc' := 4) (by decide) (by decide) ?_
                              refine gLoadIN X48 hx (hb hby d_prog_7_method_12_4) (pc' := 5) rfl rfl ?_
                              refine gLoadAN X48 hx (hb hby d_prog_7_method_12_5) (pc' := 6) rfl rfl rfl ?_
                              refine gCallVJ X48 hx hZ (y := (⟨"java/lang/String", "length", "()I"⟩ : MethodName)) hown e48 (by rw [hml]; rfl) E (hw _ (List.mem_of_getElem? (i := 27) rfl)) (hw _ (List.mem_of_getElem? (i := 28) rfl)) (hw _ (List.mem_of_getElem? (i := 30) rfl)) (hw _ (List.mem_of_getElem? (i := 29) rfl)) (hw _ (List.mem_of_getElem? (i := 4) rfl)) (hw _ (List.mem_of_getElem? (i := 31) rfl)) (by decide) (argsL := []) (st := [(.int (3 : Int32))]) (c_length_3 l Z a0 hw a t ck c0 c1 c2 h0 hCpt E C V A hc0 hc1 hc2) (lenOf pd_1 rfl) (hb hby d_prog_7_method_12_6) (pc' := 9) rfl rfl rfl rfl (by decide) (W := 1) (Nat.le_of_eq rfl) (by decide) (by decide) (by decide) ?_
                              intro T50 X50 e50
                              refine gIcmpGe X50 hx (hb hby d_prog_7_method_12_9) (pc' := 52) (by decide) (by decide) (pn := 12) rfl (fun (c9''' : (3 : Int) ≤ (3 : Int)) => ?_) (fun (c9''' : (3 : Int) < (3 : Int)) => ?_)
                              · refine gLoadIN X50 hx (hb hby d_prog_7_method_12_52) (pc' := 53) rfl rfl ?_
                                exact gRetN X50 hx hlk hret (by simp) (hb hby d_prog_7_method_12_53) (w := (1 : Int32)) rfl (by decide) (by decide) (just_t (by omega) e50)
                              · exact absurd c9''' (by decide)
                          · refine gLoadIN X48 hx (hb hby d_prog_7_method_12_28) (pc' := 29) rfl rfl ?_
                            refine gBipush X48 hx (v := (9 : Int32)) (hb hby d_prog_7_method_12_29) (pc' := 31) rfl rfl ?_
                            refine gIcmpNeT X48 hx (hb hby d_prog_7_method_12_31) (pc' := 44) (by decide) (by decide) (pn := 34) rfl (fun (c31'' : ¬ c2.toInt = (9 : Int)) => ?_) (fun (c31'' : c2.toInt = (9 : Int)) => ?_)
                            · refine gIconst X48 hx (v := (0 : Int32)) (hb hby d_prog_7_method_12_44) (pc' := 45) rfl rfl ?_
                              refine gStoreIN X48 hx (hb hby d_prog_7_method_12_45) (l' := #[.val (.ref a), .val (.int (0 : Int32)), .val (.int (2 : Int32)), .val (.int c2)]) (pc' := 46) rfl rfl ?_
                              refine gIinc X48 hx (v := (1 : Int32)) (hb hby d_prog_7_method_12_46) (l' := #[.val (.ref a), .val (.int (0 : Int32)), .val (.int (3 : Int32)), .val (.int c2)]) (pc' := 49) rfl rfl rfl rfl ?_
                              refine gGoto X48 hx (hb hby d_prog_7_method_12_49) (pc' := 4) (by decide) (by decide) ?_
                              refine gLoadIN X48 hx (hb hby d_prog_7_method_12_4) (pc' := 5) rfl rfl ?_
                              refine gLoadAN X48 hx (hb hby d_prog_7_method_12_5) (pc' := 6) rfl rfl rfl ?_
                              refine gCallVJ X48 hx hZ (y := (⟨"java/lang/String", "length", "()I"⟩ : MethodName)) hown e48 (by rw [hml]; rfl) E (hw _ (List.mem_of_getElem? (i := 27) rfl)) (hw _ (List.mem_of_getElem? (i := 28) rfl)) (hw _ (List.mem_of_getElem? (i := 30) rfl)) (hw _ (List.mem_of_getElem? (i := 29) rfl)) (hw _ (List.mem_of_getElem? (i := 4) rfl)) (hw _ (List.mem_of_getElem? (i := 31) rfl)) (by decide) (argsL := []) (st := [(.int (3 : Int32))]) (c_length_3 l Z a0 hw a t ck c0 c1 c2 h0 hCpt E C V A hc0 hc1 hc2) (lenOf pd_1 rfl) (hb hby d_prog_7_method_12_6) (pc' := 9) rfl rfl rfl rfl (by decide) (W := 1) (Nat.le_of_eq rfl) (by decide) (by decide) (by decide) ?_
                              intro T51 X51 e51
                              refine gIcmpGe X51 hx (hb hby d_prog_7_method_12_9) (pc' := 52) (by decide) (by decide) (pn := 12) rfl (fun (c9''' : (3 : Int) ≤ (3 : Int)) => ?_) (fun (c9''' : (3 : Int) < (3 : Int)) => ?_)
                              · refine gLoadIN X51 hx (hb hby d_prog_7_method_12_52) (pc' := 53) rfl rfl ?_
                                exact gRetN X51 hx hlk hret (by simp) (hb hby d_prog_7_method_12_53) (w := (0 : Int32)) rfl (by decide) (by decide) (just_f (by omega) e51)
                              · exact absurd c9''' (by decide)
                            · refine gLoadIN X48 hx (hb hby d_prog_7_method_12_34) (pc' := 35) rfl rfl ?_
                              refine gBipush X48 hx (v := (127 : Int32)) (hb hby d_prog_7_method_12_35) (pc' := 37) rfl rfl ?_
                              refine gIcmpEqT X48 hx (hb hby d_prog_7_method_12_37) (pc' := 44) (by decide) (by decide) (pn := 40) rfl (fun (c37'' : c2.toInt = (127 : Int)) => ?_) (fun (c37'' : ¬ c2.toInt = (127 : Int)) => ?_)
                              · exact absurd c37'' (by omega)
                              · refine gIconst X48 hx (v := (1 : Int32)) (hb hby d_prog_7_method_12_40) (pc' := 41) rfl rfl ?_
                                refine gGoto X48 hx (hb hby d_prog_7_method_12_41) (pc' := 45) (by decide) (by decide) ?_
                                refine gStoreIN X48 hx (hb hby d_prog_7_method_12_45) (l' := #[.val (.ref a), .val (.int (1 : Int32)), .val (.int (2 : Int32)), .val (.int c2)]) (pc' := 46) rfl rfl ?_
                                refine gIinc X48 hx (v := (1 : Int32)) (hb hby d_prog_7_method_12_46) (l' := #[.val (.ref a), .val (.int (1 : Int32)), .val (.int (3 : Int32)), .val (.int c2)]) (pc' := 49) rfl rfl rfl rfl ?_
                                refine gGoto X48 hx (hb hby d_prog_7_method_12_49) (pc' := 4) (by decide) (by decide) ?_
                                refine gLoadIN X48 hx (hb hby d_prog_7_method_12_4) (pc' := 5) rfl rfl ?_
                                refine gLoadAN X48 hx (hb hby d_prog_7_method_12_5) (pc' := 6) rfl rfl rfl ?_
                                refine gCallVJ X48 hx hZ (y := (⟨"java/lang/String", "length", "()I"⟩ : MethodName)) hown e48 (by rw [hml]; rfl) E (hw _ (List.mem_of_getElem? (i := 27) rfl)) (hw _ (List.mem_of_getElem? (i := 28) rfl)) (hw _ (List.mem_of_getElem? (i := 30) rfl)) (hw _ (List.mem_of_getElem? (i := 29) rfl)) (hw _ (List.mem_of_getElem? (i := 4) rfl)) (hw _ (List.mem_of_getElem? (i := 31) rfl)) (by decide) (argsL := []) (st := [(.int (3 : Int32))]) (c_length_3 l Z a0 hw a t ck c0 c1 c2 h0 hCpt E C V A hc0 hc1 hc2) (lenOf pd_1 rfl) (hb hby d_prog_7_method_12_6) (pc' := 9) rfl rfl rfl rfl (by decide) (W := 1) (Nat.le_of_eq rfl) (by decide) (by decide) (by decide) ?_
                                intro T52 X52 e52
                                refine gIcmpGe X52 hx (hb hby d_prog_7_method_12_9) (pc' := 52) (by decide) (by decide) (pn := 12) rfl (fun (c9''' : (3 : Int) ≤ (3 : Int)) => ?_) (fun (c9''' : (3 : Int) < (3 : Int)) => ?_)
                                · refine gLoadIN X52 hx (hb hby d_prog_7_method_12_52) (pc' := 53) rfl rfl ?_
                                  exact gRetN X52 hx hlk hret (by simp) (hb hby d_prog_7_method_12_53) (w := (1 : Int32)) rfl (by decide) (by decide) (just_t (by omega) e52)
                                · exact absurd c9''' (by decide)
theorem ef_c_length_4 (m : MethodId) (a : Addr) : entryFrame m #[(.ref a)] 1 = mkF m 0 #[.val (.ref a)] [] := by first | (simp [entryFrame, mkF, argsToLocals, Value.category]; done) | rfl
set_option maxRecDepth 65536 in
set_option maxHeartbeats 40000000 in
theorem c_length_4 (l : Launch) (Z : State) (a0 : Array Value) (hw : ∀ d ∈ tables_1, d.before a0 Z = true) (a t : Addr) (ck : ClassId) (c0 c1 c2 c3 : Int32) (h0 : Heap) (hCpt : Cpt Z h0) (E : Exa Z h0 a "java/lang/String") (C : Fld Z h0 a "java/lang/String" "coder" "B" (.int 0)) (V : Fld Z h0 a "java/lang/String" "value" "[B" (.ref t)) (A : Arv Z h0 t ck .byte 4 [by8 c0, by8 c1, by8 c2, by8 c3] (.int 0)) (hc0 : 0 ≤ c0.toInt ∧ c0.toInt ≤ 255) (hc1 : 0 ≤ c1.toInt ∧ c1.toInt ≤ 255) (hc2 : 0 ≤ c2.toInt ∧ c2.toInt ≤ 255) (hc3 : 0 ≤ c3.toInt ∧ c3.toInt ≤ 255) :
    Ctr l Z (⟨"java/lang/String", "length", "()I"⟩ : MethodName) jdk_42_method_54_code 1 (some .int) [] ({ frames := 1, cells := 0, slots := 0, locals := 13 } : Room) #[(.ref a)] h0 (Just h0 (.int 4)) := by
  refine Ctr.of (plainFor_of_name pn_3) ?_
  intro p e s m below meth c s₁ hx hby hml hret hown hnm hZ hlk X0 e0
  refine Goes.cast (ef_c_length_4 m a) ?_
  refine gLoadAN X0 hx (hb hby d_jdk_42_method_54_0) (pc' := 1) rfl rfl rfl ?_
  refine gGetF X0 hx hZ hown (hw _ (List.mem_of_getElem? (i := 21) rfl)) Via.refl e0 V (hb hby d_jdk_42_method_54_1) (pc' := 4) rfl (fun T1 X1 e1 => ?_)
  refine gArrLen X1 hx hZ e1 A (hb hby d_jdk_42_method_54_4) (pc' := 5) rfl ?_
  refine gLoadAN X1 hx (hb hby d_jdk_42_method_54_5) (pc' := 6) rfl rfl rfl ?_
  refine gCallVJ X1 hx hZ (y := (⟨"java/lang/String", "coder", "()B"⟩ : MethodName)) hown e1 (by rw [hml]; rfl) E (hw _ (List.mem_of_getElem? (i := 32) rfl)) (hw _ (List.mem_of_getElem? (i := 33) rfl)) (hw _ (List.mem_of_getElem? (i := 35) rfl)) (hw _ (List.mem_of_getElem? (i := 34) rfl)) (hw _ (List.mem_of_getElem? (i := 4) rfl)) (hw _ (List.mem_of_getElem? (i := 36) rfl)) (by decide) (argsL := []) (st := [(.int (4 : Int32))]) (c_coder l Z a0 hw a h0 hCpt C) (lenOf pd_0 rfl) (hb hby d_jdk_42_method_54_6) (pc' := 9) rfl rfl rfl rfl (by decide) (W := 1) (Nat.le_of_eq rfl) (by decide) (by decide) (by decide) ?_
  intro T2 X2 e2
  refine gIshr X2 hx (hb hby d_jdk_42_method_54_9) (pc' := 10) rfl ?_
  show Goes p e below _ T2 (mkF m 10 #[.val (.ref a)] [(.int (4 : Int32))])
  exact gRetI X2 hx hlk hret (hb hby d_jdk_42_method_54_10) (by decide) (by decide) (⟨rfl, e2, rfl⟩)
theorem ef_c_chk_0_4p (m : MethodId) (sf : Value) (hsf : sf.isRef = true) : entryFrame m #[(.int (0 : Int32)), (.int (4 : Int32)), sf] 3 = mkF m 0 #[.val (.int (0 : Int32)), .val (.int (4 : Int32)), .val sf] [] := by rcases ref_cases hsf with rfl | ⟨_, rfl⟩ <;> (first | (simp [entryFrame, mkF, argsToLocals, Value.category]; done) | rfl)
set_option maxRecDepth 65536 in
set_option maxHeartbeats 40000000 in
theorem c_chk_0_4p (l : Launch) (Z : State) (a0 : Array Value) (hw : ∀ d ∈ tables_1, d.before a0 Z = true) (sf : Value) (hsf : sf.isRef = true) (h0 : Heap)  :
    Ctr l Z (⟨"jdk/internal/util/Preconditions", "checkIndex", "(IILjava/util/function/BiFunction;)I"⟩ : MethodName) jdk_41_method_11_code 3 (some .int) [] ({ frames := 0, cells := 0, slots := 0, locals := 0 } : Room) #[(.int (0 : Int32)), (.int (4 : Int32)), sf] h0 (Just h0 (.int 0)) := by
  refine Ctr.of (plainFor_of_name pn_6) ?_
  intro p e s m below meth c s₁ hx hby hml hret hown hnm hZ hlk X0 e0
  refine Goes.cast (ef_c_chk_0_4p m sf hsf) ?_
  refine gLoadIN X0 hx (hb hby d_jdk_41_method_11_0) (pc' := 1) rfl rfl ?_
  refine gIfLt X0 hx (hb hby d_jdk_41_method_11_1) (pc' := 9) (by decide) (by decide) (pn := 4) rfl (fun (c1 : (0 : Int) < (0 : Int)) => ?_) (fun (c1 : (0 : Int) ≤ (0 : Int)) => ?_)
  · exact absurd c1 (by decide)
  · refine gLoadIN X0 hx (hb hby d_jdk_41_method_11_4) (pc' := 5) rfl rfl ?_
    refine gLoadIN X0 hx (hb hby d_jdk_41_method_11_5) (pc' := 6) rfl rfl ?_
    refine gIcmpLt X0 hx (hb hby d_jdk_41_method_11_6) (pc' := 16) (by decide) (by decide) (pn := 9) rfl (fun (c6 : (0 : Int) < (4 : Int)) => ?_) (fun (c6 : (4 : Int) ≤ (0 : Int)) => ?_)
    · refine gLoadIN X0 hx (hb hby d_jdk_41_method_11_16) (pc' := 17) rfl rfl ?_
      exact gRetI X0 hx hlk hret (hb hby d_jdk_41_method_11_17) (by decide) (by decide) (⟨rfl, e0, rfl⟩)
    · exact absurd c6 (by decide)
theorem ef_c_chk_0_4 (m : MethodId)  : entryFrame m #[(.int (0 : Int32)), (.int (4 : Int32))] 2 = mkF m 0 #[.val (.int (0 : Int32)), .val (.int (4 : Int32))] [] := by first | (simp [entryFrame, mkF, argsToLocals, Value.category]; done) | rfl
set_option maxRecDepth 65536 in
set_option maxHeartbeats 40000000 in
theorem c_chk_0_4 (l : Launch) (Z : State) (a0 : Array Value) (hw : ∀ d ∈ tables_1, d.before a0 Z = true)  (h0 : Heap) (hSio : Sio Z h0) :
    Ctr l Z (⟨"java/lang/String", "checkIndex", "(II)V"⟩ : MethodName) jdk_42_method_155_code 2 none [] ({ frames := 1, cells := 0, slots := 0, locals := 14 } : Room) #[(.int (0 : Int32)), (.int (4 : Int32))] h0 (fun v h L => v = none ∧ h = h0 ∧ L = []) := by
  refine Ctr.of (plainFor_of_name pn_3) ?_
  intro p e s m below meth c s₁ hx hby hml hret hown hnm hZ hlk X0 e0
  refine Goes.cast (ef_c_chk_0_4 m ) ?_
  obtain ⟨sf, SF, hsf⟩ := hSio
  refine gLoadIN X0 hx (hb hby d_jdk_42_method_155_0) (pc' := 1) rfl rfl ?_
  refine gLoadIN X0 hx (hb hby d_jdk_42_method_155_1) (pc' := 2) rfl rfl ?_
  refine gGetS X0 hx hZ hown (hw _ (List.mem_of_getElem? (i := 69) rfl)) Via.refl e0 SF (hb hby d_jdk_42_method_155_2) (pc' := 5) rfl (fun T1 X1 e1 => ?_)
  refine gCallSJ X1 hx hZ (y := (⟨"jdk/internal/util/Preconditions", "checkIndex", "(IILjava/util/function/BiFunction;)I"⟩ : MethodName)) hown e1 (by rw [hml]; rfl) (hw _ (List.mem_of_getElem? (i := 71) rfl)) (hw _ (List.mem_of_getElem? (i := 72) rfl)) (hw _ (List.mem_of_getElem? (i := 70) rfl)) (hw _ (List.mem_of_getElem? (i := 73) rfl)) (by decide) (argsL := [(.int (0 : Int32)), (.int (4 : Int32)), sf]) (st := []) (c_chk_0_4p l Z a0 hw sf hsf h0) (lenOf pd_7 rfl) (hb hby d_jdk_42_method_155_5) (pc' := 8) rfl rfl rfl rfl (by decide) (W := 0) (Nat.le_of_eq rfl) (by decide) (by decide) (by decide) ?_
  intro T2 X2 e2
  refine gPop X2 hx (hb hby d_jdk_42_method_155_8) (pc' := 9) rfl rfl ?_
  exact gRetV X2 hx hlk hret (hb hby d_jdk_42_method_155_9) (by decide) (by decide) (⟨rfl, e2, rfl⟩)
theorem ef_c_charAt_0_4l (m : MethodId) (t : Addr) : entryFrame m #[(.ref t), (.int (0 : Int32))] 2 = mkF m 0 #[.val (.ref t), .val (.int (0 : Int32))] [] := by first | (simp [entryFrame, mkF, argsToLocals, Value.category]; done) | rfl
set_option maxRecDepth 65536 in
set_option maxHeartbeats 40000000 in
theorem c_charAt_0_4l (l : Launch) (Z : State) (a0 : Array Value) (hw : ∀ d ∈ tables_1, d.before a0 Z = true) (t : Addr) (ck : ClassId) (c0 c1 c2 c3 : Int32) (h0 : Heap) (hSio : Sio Z h0) (A : Arv Z h0 t ck .byte 4 [by8 c0, by8 c1, by8 c2, by8 c3] (.int 0)) (hc0 : 0 ≤ c0.toInt ∧ c0.toInt ≤ 255) (hc1 : 0 ≤ c1.toInt ∧ c1.toInt ≤ 255) (hc2 : 0 ≤ c2.toInt ∧ c2.toInt ≤ 255) (hc3 : 0 ≤ c3.toInt ∧ c3.toInt ≤ 255) :
    Ctr l Z (⟨"java/lang/StringLatin1", "charAt", "([BI)C"⟩ : MethodName) jdk_43_method_2_code 2 (some .char) [] ({ frames := 2, cells := 0, slots := 0, locals := 28 } : Room) #[(.ref t), (.int (0 : Int32))] h0 (Just h0 (.int c0)) := by
  refine Ctr.of (plainFor_of_name pn_4) ?_
  intro p e s m below meth c s₁ hx hby hml hret hown hnm hZ hlk X0 e0
  refine Goes.cast (ef_c_charAt_0_4l m t) ?_
  refine gLoadIN X0 hx (hb hby d_jdk_43_method_2_0) (pc' := 1) rfl rfl ?_
  refine gLoadAN X0 hx (hb hby d_jdk_43_method_2_1) (pc' := 2) rfl rfl rfl ?_
  refine gArrLen X0 hx hZ e0 A (hb hby d_jdk_43_method_2_2) (pc' := 3) rfl ?_
  refine gCallS X0 hx hZ (y := (⟨"java/lang/String", "checkIndex", "(II)V"⟩ : MethodName)) hown e0 (by rw [hml]; rfl) (hw _ (List.mem_of_getElem? (i := 66) rfl)) (hw _ (List.mem_of_getElem? (i := 67) rfl)) (hw _ (List.mem_of_getElem? (i := 4) rfl)) (hw _ (List.mem_of_getElem? (i := 68) rfl)) (by decide) (argsL := [(.int (0 : Int32)), (.int (4 : Int32))]) (st := []) (c_chk_0_4 l Z a0 hw h0 hSio) (lenOf pd_6 rfl) (hb hby d_jdk_43_method_2_3) (pc' := 6) rfl rfl (by decide) (W := 0) (Nat.le_of_eq rfl) (by decide) (by decide) (by decide) ?_
  intro T1 v1 L1 X1 hQ1
  obtain ⟨rfl, eq1, rfl⟩ := hQ1
  rw [List.append_nil] at X1
  refine gLoadAN X1 hx (hb hby d_jdk_43_method_2_6) (pc' := 7) rfl rfl rfl ?_
  refine gLoadIN X1 hx (hb hby d_jdk_43_method_2_7) (pc' := 8) rfl rfl ?_
  refine gBaload X1 hx hZ eq1 A (j := (0 : Int32)) (v := (.int (c0.toInt8.toInt32))) (by decide) (by decide) rfl (hb hby d_jdk_43_method_2_8) (pc' := 9) rfl ?_
  refine gSipush X1 hx (v := (255 : Int32)) (hb hby d_jdk_43_method_2_9) (pc' := 12) rfl rfl ?_
  refine gIand X1 hx (hb hby d_jdk_43_method_2_12) (pc' := 13) rfl ?_
  refine gI2c X1 hx (hb hby d_jdk_43_method_2_13) (pc' := 14) rfl ?_
  rw [own_ch hc0]
  exact gRetN X1 hx hlk hret (by simp) (hb hby d_jdk_43_method_2_14) (w := c0) (own_nc (own_c8 hc0)) (by decide) (by decide) (⟨rfl, eq1, rfl⟩)
theorem ef_c_charAt_0_4 (m : MethodId) (a : Addr) : entryFrame m #[(.ref a), (.int (0 : Int32))] 2 = mkF m 0 #[.val (.ref a), .val (.int (0 : Int32))] [] := by first | (simp [entryFrame, mkF, argsToLocals, Value.category]; done) | rfl
set_option maxRecDepth 65536 in
set_option maxHeartbeats 40000000 in
theorem c_charAt_0_4 (l : Launch) (Z : State) (a0 : Array Value) (hw : ∀ d ∈ tables_1, d.before a0 Z = true) (a t : Addr) (ck : ClassId) (c0 c1 c2 c3 : Int32) (h0 : Heap) (hSio : Sio Z h0) (hCpt : Cpt Z h0) (E : Exa Z h0 a "java/lang/String") (C : Fld Z h0 a "java/lang/String" "coder" "B" (.int 0)) (V : Fld Z h0 a "java/lang/String" "value" "[B" (.ref t)) (A : Arv Z h0 t ck .byte 4 [by8 c0, by8 c1, by8 c2, by8 c3] (.int 0)) (hc0 : 0 ≤ c0.toInt ∧ c0.toInt ≤ 255) (hc1 : 0 ≤ c1.toInt ∧ c1.toInt ≤ 255) (hc2 : 0 ≤ c2.toInt ∧ c2.toInt ≤ 255) (hc3 : 0 ≤ c3.toInt ∧ c3.toInt ≤ 255) :
    Ctr l Z (⟨"java/lang/String", "charAt", "(I)C"⟩ : MethodName) jdk_42_method_56_code 2 (some .char) [] ({ frames := 3, cells := 0, slots := 0, locals := 41 } : Room) #[(.ref a), (.int (0 : Int32))] h0 (Just h0 (.int c0)) := by
  refine Ctr.of (plainFor_of_name pn_3) ?_
  intro p e s m below meth c s₁ hx hby hml hret hown hnm hZ hlk X0 e0
  refine Goes.cast (ef_c_charAt_0_4 m a) ?_
  refine gLoadAN X0 hx (hb hby d_jdk_42_method_56_0) (pc' := 1) rfl rfl rfl ?_
  refine gCallVJ X0 hx hZ (y := (⟨"java/lang/String", "isLatin1", "()Z"⟩ : MethodName)) hown e0 (by rw [hml]; rfl) E (hw _ (List.mem_of_getElem? (i := 57) rfl)) (hw _ (List.mem_of_getElem? (i := 58) rfl)) (hw _ (List.mem_of_getElem? (i := 60) rfl)) (hw _ (List.mem_of_getElem? (i := 59) rfl)) (hw _ (List.mem_of_getElem? (i := 4) rfl)) (hw _ (List.mem_of_getElem? (i := 61) rfl)) (by decide) (argsL := []) (st := []) (c_isLatin1 l Z a0 hw a h0 hCpt C) (lenOf pd_3 rfl) (hb hby d_jdk_42_method_56_1) (pc' := 4) rfl rfl rfl rfl (by decide) (W := 0) (Nat.le_of_eq rfl) (by decide) (by decide) (by decide) ?_
  intro T1 X1 e1
  refine gIfEqT X1 hx (hb hby d_jdk_42_method_56_4) (pc' := 16) (by decide) (by decide) (pn := 7) rfl (fun (c4 : (1 : Int) = (0 : Int)) => ?_) (fun (c4 : ¬ (1 : Int) = (0 : Int)) => ?_)
  · exact absurd c4 (by decide)
  · refine gLoadAN X1 hx (hb hby d_jdk_42_method_56_7) (pc' := 8) rfl rfl rfl ?_
    refine gGetF X1 hx hZ hown (hw _ (List.mem_of_getElem? (i := 21) rfl)) Via.refl e1 V (hb hby d_jdk_42_method_56_8) (pc' := 11) rfl (fun T2 X2 e2 => ?_)
    refine gLoadIN X2 hx (hb hby d_jdk_42_method_56_11) (pc' := 12) rfl rfl ?_
    refine gCallSJ X2 hx hZ (y := (⟨"java/lang/StringLatin1", "charAt", "([BI)C"⟩ : MethodName)) hown e2 (by rw [hml]; rfl) (hw _ (List.mem_of_getElem? (i := 62) rfl)) (hw _ (List.mem_of_getElem? (i := 63) rfl)) (hw _ (List.mem_of_getElem? (i := 64) rfl)) (hw _ (List.mem_of_getElem? (i := 65) rfl)) (by decide) (argsL := [(.ref t), (.int (0 : Int32))]) (st := []) (c_charAt_0_4l l Z a0 hw t ck c0 c1 c2 c3 h0 hSio A hc0 hc1 hc2 hc3) (lenOf pd_10 rfl) (hb hby d_jdk_42_method_56_12) (pc' := 15) rfl rfl rfl rfl (by decide) (W := 0) (Nat.le_of_eq rfl) (by decide) (by decide) (by decide) ?_
    intro T3 X3 e3
    exact gRetN X3 hx hlk hret (by simp) (hb hby d_jdk_42_method_56_15) (w := c0) (own_nc (own_c8 hc0)) (by decide) (by decide) (⟨rfl, e3, rfl⟩)
theorem ef_c_chk_1_4p (m : MethodId) (sf : Value) (hsf : sf.isRef = true) : entryFrame m #[(.int (1 : Int32)), (.int (4 : Int32)), sf] 3 = mkF m 0 #[.val (.int (1 : Int32)), .val (.int (4 : Int32)), .val sf] [] := by rcases ref_cases hsf with rfl | ⟨_, rfl⟩ <;> (first | (simp [entryFrame, mkF, argsToLocals, Value.category]; done) | rfl)
set_option maxRecDepth 65536 in
set_option maxHeartbeats 40000000 in
theorem c_chk_1_4p (l : Launch) (Z : State) (a0 : Array Value) (hw : ∀ d ∈ tables_1, d.before a0 Z = true) (sf : Value) (hsf : sf.isRef = true) (h0 : Heap)  :
    Ctr l Z (⟨"jdk/internal/util/Preconditions", "checkIndex", "(IILjava/util/function/BiFunction;)I"⟩ : MethodName) jdk_41_method_11_code 3 (some .int) [] ({ frames := 0, cells := 0, slots := 0, locals := 0 } : Room) #[(.int (1 : Int32)), (.int (4 : Int32)), sf] h0 (Just h0 (.int 1)) := by
  refine Ctr.of (plainFor_of_name pn_6) ?_
  intro p e s m below meth c s₁ hx hby hml hret hown hnm hZ hlk X0 e0
  refine Goes.cast (ef_c_chk_1_4p m sf hsf) ?_
  refine gLoadIN X0 hx (hb hby d_jdk_41_method_11_0) (pc' := 1) rfl rfl ?_
  refine gIfLt X0 hx (hb hby d_jdk_41_method_11_1) (pc' := 9) (by decide) (by decide) (pn := 4) rfl (fun (c1 : (1 : Int) < (0 : Int)) => ?_) (fun (c1 : (0 : Int) ≤ (1 : Int)) => ?_)
  · exact absurd c1 (by decide)
  · refine gLoadIN X0 hx (hb hby d_jdk_41_method_11_4) (pc' := 5) rfl rfl ?_
    refine gLoadIN X0 hx (hb hby d_jdk_41_method_11_5) (pc' := 6) rfl rfl ?_
    refine gIcmpLt X0 hx (hb hby d_jdk_41_method_11_6) (pc' := 16) (by decide) (by decide) (pn := 9) rfl (fun (c6 : (1 : Int) < (4 : Int)) => ?_) (fun (c6 : (4 : Int) ≤ (1 : Int)) => ?_)
    · refine gLoadIN X0 hx (hb hby d_jdk_41_method_11_16) (pc' := 17) rfl rfl ?_
      exact gRetI X0 hx hlk hret (hb hby d_jdk_41_method_11_17) (by decide) (by decide) (⟨rfl, e0, rfl⟩)
    · exact absurd c6 (by decide)
theorem ef_c_chk_1_4 (m : MethodId)  : entryFrame m #[(.int (1 : Int32)), (.int (4 : Int32))] 2 = mkF m 0 #[.val (.int (1 : Int32)), .val (.int (4 : Int32))] [] := by first | (simp [entryFrame, mkF, argsToLocals, Value.category]; done) | rfl
set_option maxRecDepth 65536 in
set_option maxHeartbeats 40000000 in
theorem c_chk_1_4 (l : Launch) (Z : State) (a0 : Array Value) (hw : ∀ d ∈ tables_1, d.before a0 Z = true)  (h0 : Heap) (hSio : Sio Z h0) :
    Ctr l Z (⟨"java/lang/String", "checkIndex", "(II)V"⟩ : MethodName) jdk_42_method_155_code 2 none [] ({ frames := 1, cells := 0, slots := 0, locals := 14 } : Room) #[(.int (1 : Int32)), (.int (4 : Int32))] h0 (fun v h L => v = none ∧ h = h0 ∧ L = []) := by
  refine Ctr.of (plainFor_of_name pn_3) ?_
  intro p e s m below meth c s₁ hx hby hml hret hown hnm hZ hlk X0 e0
  refine Goes.cast (ef_c_chk_1_4 m ) ?_
  obtain ⟨sf, SF, hsf⟩ := hSio
  refine gLoadIN X0 hx (hb hby d_jdk_42_method_155_0) (pc' := 1) rfl rfl ?_
  refine gLoadIN X0 hx (hb hby d_jdk_42_method_155_1) (pc' := 2) rfl rfl ?_
  refine gGetS X0 hx hZ hown (hw _ (List.mem_of_getElem? (i := 69) rfl)) Via.refl e0 SF (hb hby d_jdk_42_method_155_2) (pc' := 5) rfl (fun T1 X1 e1 => ?_)
  refine gCallSJ X1 hx hZ (y := (⟨"jdk/internal/util/Preconditions", "checkIndex", "(IILjava/util/function/BiFunction;)I"⟩ : MethodName)) hown e1 (by rw [hml]; rfl) (hw _ (List.mem_of_getElem? (i := 71) rfl)) (hw _ (List.mem_of_getElem? (i := 72) rfl)) (hw _ (List.mem_of_getElem? (i := 70) rfl)) (hw _ (List.mem_of_getElem? (i := 73) rfl)) (by decide) (argsL := [(.int (1 : Int32)), (.int (4 : Int32)), sf]) (st := []) (c_chk_1_4p l Z a0 hw sf hsf h0) (lenOf pd_7 rfl) (hb hby d_jdk_42_method_155_5) (pc' := 8) rfl rfl rfl rfl (by decide) (W := 0) (Nat.le_of_eq rfl) (by decide) (by decide) (by decide) ?_
  intro T2 X2 e2
  refine gPop X2 hx (hb hby d_jdk_42_method_155_8) (pc' := 9) rfl rfl ?_
  exact gRetV X2 hx hlk hret (hb hby d_jdk_42_method_155_9) (by decide) (by decide) (⟨rfl, e2, rfl⟩)
theorem ef_c_charAt_1_4l (m : MethodId) (t : Addr) : entryFrame m #[(.ref t), (.int (1 : Int32))] 2 = mkF m 0 #[.val (.ref t), .val (.int (1 : Int32))] [] := by first | (simp [entryFrame, mkF, argsToLocals, Value.category]; done) | rfl
set_option maxRecDepth 65536 in
set_option maxHeartbeats 40000000 in
theorem c_charAt_1_4l (l : Launch) (Z : State) (a0 : Array Value) (hw : ∀ d ∈ tables_1, d.before a0 Z = true) (t : Addr) (ck : ClassId) (c0 c1 c2 c3 : Int32) (h0 : Heap) (hSio : Sio Z h0) (A : Arv Z h0 t ck .byte 4 [by8 c0, by8 c1, by8 c2, by8 c3] (.int 0)) (hc0 : 0 ≤ c0.toInt ∧ c0.toInt ≤ 255) (hc1 : 0 ≤ c1.toInt ∧ c1.toInt ≤ 255) (hc2 : 0 ≤ c2.toInt ∧ c2.toInt ≤ 255) (hc3 : 0 ≤ c3.toInt ∧ c3.toInt ≤ 255) :
    Ctr l Z (⟨"java/lang/StringLatin1", "charAt", "([BI)C"⟩ : MethodName) jdk_43_method_2_code 2 (some .char) [] ({ frames := 2, cells := 0, slots := 0, locals := 28 } : Room) #[(.ref t), (.int (1 : Int32))] h0 (Just h0 (.int c1)) := by
  refine Ctr.of (plainFor_of_name pn_4) ?_
  intro p e s m below meth c s₁ hx hby hml hret hown hnm hZ hlk X0 e0
  refine Goes.cast (ef_c_charAt_1_4l m t) ?_
  refine gLoadIN X0 hx (hb hby d_jdk_43_method_2_0) (pc' := 1) rfl rfl ?_
  refine gLoadAN X0 hx (hb hby d_jdk_43_method_2_1) (pc' := 2) rfl rfl rfl ?_
  refine gArrLen X0 hx hZ e0 A (hb hby d_jdk_43_method_2_2) (pc' := 3) rfl ?_
  refine gCallS X0 hx hZ (y := (⟨"java/lang/String", "checkIndex", "(II)V"⟩ : MethodName)) hown e0 (by rw [hml]; rfl) (hw _ (List.mem_of_getElem? (i := 66) rfl)) (hw _ (List.mem_of_getElem? (i := 67) rfl)) (hw _ (List.mem_of_getElem? (i := 4) rfl)) (hw _ (List.mem_of_getElem? (i := 68) rfl)) (by decide) (argsL := [(.int (1 : Int32)), (.int (4 : Int32))]) (st := []) (c_chk_1_4 l Z a0 hw h0 hSio) (lenOf pd_6 rfl) (hb hby d_jdk_43_method_2_3) (pc' := 6) rfl rfl (by decide) (W := 0) (Nat.le_of_eq rfl) (by decide) (by decide) (by decide) ?_
  intro T1 v1 L1 X1 hQ1
  obtain ⟨rfl, eq1, rfl⟩ := hQ1
  rw [List.append_nil] at X1
  refine gLoadAN X1 hx (hb hby d_jdk_43_method_2_6) (pc' := 7) rfl rfl rfl ?_
  refine gLoadIN X1 hx (hb hby d_jdk_43_method_2_7) (pc' := 8) rfl rfl ?_
  refine gBaload X1 hx hZ eq1 A (j := (1 : Int32)) (v := (.int (c1.toInt8.toInt32))) (by decide) (by decide) rfl (hb hby d_jdk_43_method_2_8) (pc' := 9) rfl ?_
  refine gSipush X1 hx (v := (255 : Int32)) (hb hby d_jdk_43_method_2_9) (pc' := 12) rfl rfl ?_
  refine gIand X1 hx (hb hby d_jdk_43_method_2_12) (pc' := 13) rfl ?_
  refine gI2c X1 hx (hb hby d_jdk_43_method_2_13) (pc' := 14) rfl ?_
  rw [own_ch hc1]
  exact gRetN X1 hx hlk hret (by simp) (hb hby d_jdk_43_method_2_14) (w := c1) (own_nc (own_c8 hc1)) (by decide) (by decide) (⟨rfl, eq1, rfl⟩)
theorem ef_c_charAt_1_4 (m : MethodId) (a : Addr) : entryFrame m #[(.ref a), (.int (1 : Int32))] 2 = mkF m 0 #[.val (.ref a), .val (.int (1 : Int32))] [] := by first | (simp [entryFrame, mkF, argsToLocals, Value.category]; done) | rfl
set_option maxRecDepth 65536 in
set_option maxHeartbeats 40000000 in
theorem c_charAt_1_4 (l : Launch) (Z : State) (a0 : Array Value) (hw : ∀ d ∈ tables_1, d.before a0 Z = true) (a t : Addr) (ck : ClassId) (c0 c1 c2 c3 : Int32) (h0 : Heap) (hSio : Sio Z h0) (hCpt : Cpt Z h0) (E : Exa Z h0 a "java/lang/String") (C : Fld Z h0 a "java/lang/String" "coder" "B" (.int 0)) (V : Fld Z h0 a "java/lang/String" "value" "[B" (.ref t)) (A : Arv Z h0 t ck .byte 4 [by8 c0, by8 c1, by8 c2, by8 c3] (.int 0)) (hc0 : 0 ≤ c0.toInt ∧ c0.toInt ≤ 255) (hc1 : 0 ≤ c1.toInt ∧ c1.toInt ≤ 255) (hc2 : 0 ≤ c2.toInt ∧ c2.toInt ≤ 255) (hc3 : 0 ≤ c3.toInt ∧ c3.toInt ≤ 255) :
    Ctr l Z (⟨"java/lang/String", "charAt", "(I)C"⟩ : MethodName) jdk_42_method_56_code 2 (some .char) [] ({ frames := 3, cells := 0, slots := 0, locals := 41 } : Room) #[(.ref a), (.int (1 : Int32))] h0 (Just h0 (.int c1)) := by
  refine Ctr.of (plainFor_of_name pn_3) ?_
  intro p e s m below meth c s₁ hx hby hml hret hown hnm hZ hlk X0 e0
  refine Goes.cast (ef_c_charAt_1_4 m a) ?_
  refine gLoadAN X0 hx (hb hby d_jdk_42_method_56_0) (pc' := 1) rfl rfl rfl ?_
  refine gCallVJ X0 hx hZ (y := (⟨"java/lang/String", "isLatin1", "()Z"⟩ : MethodName)) hown e0 (by rw [hml]; rfl) E (hw _ (List.mem_of_getElem? (i := 57) rfl)) (hw _ (List.mem_of_getElem? (i := 58) rfl)) (hw _ (List.mem_of_getElem? (i := 60) rfl)) (hw _ (List.mem_of_getElem? (i := 59) rfl)) (hw _ (List.mem_of_getElem? (i := 4) rfl)) (hw _ (List.mem_of_getElem? (i := 61) rfl)) (by decide) (argsL := []) (st := []) (c_isLatin1 l Z a0 hw a h0 hCpt C) (lenOf pd_3 rfl) (hb hby d_jdk_42_method_56_1) (pc' := 4) rfl rfl rfl rfl (by decide) (W := 0) (Nat.le_of_eq rfl) (by decide) (by decide) (by decide) ?_
  intro T1 X1 e1
  refine gIfEqT X1 hx (hb hby d_jdk_42_method_56_4) (pc' := 16) (by decide) (by decide) (pn := 7) rfl (fun (c4 : (1 : Int) = (0 : Int)) => ?_) (fun (c4 : ¬ (1 : Int) = (0 : Int)) => ?_)
  · exact absurd c4 (by decide)
  · refine gLoadAN X1 hx (hb hby d_jdk_42_method_56_7) (pc' := 8) rfl rfl rfl ?_
    refine gGetF X1 hx hZ hown (hw _ (List.mem_of_getElem? (i := 21) rfl)) Via.refl e1 V (hb hby d_jdk_42_method_56_8) (pc' := 11) rfl (fun T2 X2 e2 => ?_)
    refine gLoadIN X2 hx (hb hby d_jdk_42_method_56_11) (pc' := 12) rfl rfl ?_
    refine gCallSJ X2 hx hZ (y := (⟨"java/lang/StringLatin1", "charAt", "([BI)C"⟩ : MethodName)) hown e2 (by rw [hml]; rfl) (hw _ (List.mem_of_getElem? (i := 62) rfl)) (hw _ (List.mem_of_getElem? (i := 63) rfl)) (hw _ (List.mem_of_getElem? (i := 64) rfl)) (hw _ (List.mem_of_getElem? (i := 65) rfl)) (by decide) (argsL := [(.ref t), (.int (1 : Int32))]) (st := []) (c_charAt_1_4l l Z a0 hw t ck c0 c1 c2 c3 h0 hSio A hc0 hc1 hc2 hc3) (lenOf pd_10 rfl) (hb hby d_jdk_42_method_56_12) (pc' := 15) rfl rfl rfl rfl (by decide) (W := 0) (Nat.le_of_eq rfl) (by decide) (by decide) (by decide) ?_
    intro T3 X3 e3
    exact gRetN X3 hx hlk hret (by simp) (hb hby d_jdk_42_method_56_15) (w := c1) (own_nc (own_c8 hc1)) (by decide) (by decide) (⟨rfl, e3, rfl⟩)
theorem ef_c_chk_2_4p (m : MethodId) (sf : Value) (hsf : sf.isRef = true) : entryFrame m #[(.int (2 : Int32)), (.int (4 : Int32)), sf] 3 = mkF m 0 #[.val (.int (2 : Int32)), .val (.int (4 : Int32)), .val sf] [] := by rcases ref_cases hsf with rfl | ⟨_, rfl⟩ <;> (first | (simp [entryFrame, mkF, argsToLocals, Value.category]; done) | rfl)
set_option maxRecDepth 65536 in
set_option maxHeartbeats 40000000 in
theorem c_chk_2_4p (l : Launch) (Z : State) (a0 : Array Value) (hw : ∀ d ∈ tables_1, d.before a0 Z = true) (sf : Value) (hsf : sf.isRef = true) (h0 : Heap)  :
    Ctr l Z (⟨"jdk/internal/util/Preconditions", "checkIndex", "(IILjava/util/function/BiFunction;)I"⟩ : MethodName) jdk_41_method_11_code 3 (some .int) [] ({ frames := 0, cells := 0, slots := 0, locals := 0 } : Room) #[(.int (2 : Int32)), (.int (4 : Int32)), sf] h0 (Just h0 (.int 2)) := by
  refine Ctr.of (plainFor_of_name pn_6) ?_
  intro p e s m below meth c s₁ hx hby hml hret hown hnm hZ hlk X0 e0
  refine Goes.cast (ef_c_chk_2_4p m sf hsf) ?_
  refine gLoadIN X0 hx (hb hby d_jdk_41_method_11_0) (pc' := 1) rfl rfl ?_
  refine gIfLt X0 hx (hb hby d_jdk_41_method_11_1) (pc' := 9) (by decide) (by decide) (pn := 4) rfl (fun (c1 : (2 : Int) < (0 : Int)) => ?_) (fun (c1 : (0 : Int) ≤ (2 : Int)) => ?_)
  · exact absurd c1 (by decide)
  · refine gLoadIN X0 hx (hb hby d_jdk_41_method_11_4) (pc' := 5) rfl rfl ?_
    refine gLoadIN X0 hx (hb hby d_jdk_41_method_11_5) (pc' := 6) rfl rfl ?_
    refine gIcmpLt X0 hx (hb hby d_jdk_41_method_11_6) (pc' := 16) (by decide) (by decide) (pn := 9) rfl (fun (c6 : (2 : Int) < (4 : Int)) => ?_) (fun (c6 : (4 : Int) ≤ (2 : Int)) => ?_)
    · refine gLoadIN X0 hx (hb hby d_jdk_41_method_11_16) (pc' := 17) rfl rfl ?_
      exact gRetI X0 hx hlk hret (hb hby d_jdk_41_method_11_17) (by decide) (by decide) (⟨rfl, e0, rfl⟩)
    · exact absurd c6 (by decide)
theorem ef_c_chk_2_4 (m : MethodId)  : entryFrame m #[(.int (2 : Int32)), (.int (4 : Int32))] 2 = mkF m 0 #[.val (.int (2 : Int32)), .val (.int (4 : Int32))] [] := by first | (simp [entryFrame, mkF, argsToLocals, Value.category]; done) | rfl
set_option maxRecDepth 65536 in
set_option maxHeartbeats 40000000 in
theorem c_chk_2_4 (l : Launch) (Z : State) (a0 : Array Value) (hw : ∀ d ∈ tables_1, d.before a0 Z = true)  (h0 : Heap) (hSio : Sio Z h0) :
    Ctr l Z (⟨"java/lang/String", "checkIndex", "(II)V"⟩ : MethodName) jdk_42_method_155_code 2 none [] ({ frames := 1, cells := 0, slots := 0, locals := 14 } : Room) #[(.int (2 : Int32)), (.int (4 : Int32))] h0 (fun v h L => v = none ∧ h = h0 ∧ L = []) := by
  refine Ctr.of (plainFor_of_name pn_3) ?_
  intro p e s m below meth c s₁ hx hby hml hret hown hnm hZ hlk X0 e0
  refine Goes.cast (ef_c_chk_2_4 m ) ?_
  obtain ⟨sf, SF, hsf⟩ := hSio
  refine gLoadIN X0 hx (hb hby d_jdk_42_method_155_0) (pc' := 1) rfl rfl ?_
  refine gLoadIN X0 hx (hb hby d_jdk_42_method_155_1) (pc' := 2) rfl rfl ?_
  refine gGetS X0 hx hZ hown (hw _ (List.mem_of_getElem? (i := 69) rfl)) Via.refl e0 SF (hb hby d_jdk_42_method_155_2) (pc' := 5) rfl (fun T1 X1 e1 => ?_)
  refine gCallSJ X1 hx hZ (y := (⟨"jdk/internal/util/Preconditions", "checkIndex", "(IILjava/util/function/BiFunction;)I"⟩ : MethodName)) hown e1 (by rw [hml]; rfl) (hw _ (List.mem_of_getElem? (i := 71) rfl)) (hw _ (List.mem_of_getElem? (i := 72) rfl)) (hw _ (List.mem_of_getElem? (i := 70) rfl)) (hw _ (List.mem_of_getElem? (i := 73) rfl)) (by decide) (argsL := [(.int (2 : Int32)), (.int (4 : Int32)), sf]) (st := []) (c_chk_2_4p l Z a0 hw sf hsf h0) (lenOf pd_7 rfl) (hb hby d_jdk_42_method_155_5) (pc' := 8) rfl rfl rfl rfl (by decide) (W := 0) (Nat.le_of_eq rfl) (by decide) (by decide) (by decide) ?_
  intro T2 X2 e2
  refine gPop X2 hx (hb hby d_jdk_42_method_155_8) (pc' := 9) rfl rfl ?_
  exact gRetV X2 hx hlk hret (hb hby d_jdk_42_method_155_9) (by decide) (by decide) (⟨rfl, e2, rfl⟩)
theorem ef_c_charAt_2_4l (m : MethodId) (t : Addr) : entryFrame m #[(.ref t), (.int (2 : Int32))] 2 = mkF m 0 #[.val (.ref t), .val (.int (2 : Int32))] [] := by first | (simp [entryFrame, mkF, argsToLocals, Value.category]; done) | rfl
set_option maxRecDepth 65536 in
set_option maxHeartbeats 40000000 in
theorem c_charAt_2_4l (l : Launch) (Z : State) (a0 : Array Value) (hw : ∀ d ∈ tables_1, d.before a0 Z = true) (t : Addr) (ck : ClassId) (c0 c1 c2 c3 : Int32) (h0 : Heap) (hSio : Sio Z h0) (A : Arv Z h0 t ck .byte 4 [by8 c0, by8 c1, by8 c2, by8 c3] (.int 0)) (hc0 : 0 ≤ c0.toInt ∧ c0.toInt ≤ 255) (hc1 : 0 ≤ c1.toInt ∧ c1.toInt ≤ 255) (hc2 : 0 ≤ c2.toInt ∧ c2.toInt ≤ 255) (hc3 : 0 ≤ c3.toInt ∧ c3.toInt ≤ 255) :
    Ctr l Z (⟨"java/lang/StringLatin1", "charAt", "([BI)C"⟩ : MethodName) jdk_43_method_2_code 2 (some .char) [] ({ frames := 2, cells := 0, slots := 0, locals := 28 } : Room) #[(.ref t), (.int (2 : Int32))] h0 (Just h0 (.int c2)) := by
  refine Ctr.of (plainFor_of_name pn_4) ?_
  intro p e s m below meth c s₁ hx hby hml hret hown hnm hZ hlk X0 e0
  refine Goes.cast (ef_c_charAt_2_4l m t) ?_
  refine gLoadIN X0 hx (hb hby d_jdk_43_method_2_0) (pc' := 1) rfl rfl ?_
  refine gLoadAN X0 hx (hb hby d_jdk_43_method_2_1) (pc' := 2) rfl rfl rfl ?_
  refine gArrLen X0 hx hZ e0 A (hb hby d_jdk_43_method_2_2) (pc' := 3) rfl ?_
  refine gCallS X0 hx hZ (y := (⟨"java/lang/String", "checkIndex", "(II)V"⟩ : MethodName)) hown e0 (by rw [hml]; rfl) (hw _ (List.mem_of_getElem? (i := 66) rfl)) (hw _ (List.mem_of_getElem? (i := 67) rfl)) (hw _ (List.mem_of_getElem? (i := 4) rfl)) (hw _ (List.mem_of_getElem? (i := 68) rfl)) (by decide) (argsL := [(.int (2 : Int32)), (.int (4 : Int32))]) (st := []) (c_chk_2_4 l Z a0 hw h0 hSio) (lenOf pd_6 rfl) (hb hby d_jdk_43_method_2_3) (pc' := 6) rfl rfl (by decide) (W := 0) (Nat.le_of_eq rfl) (by decide) (by decide) (by decide) ?_
  intro T1 v1 L1 X1 hQ1
  obtain ⟨rfl, eq1, rfl⟩ := hQ1
  rw [List.append_nil] at X1
  refine gLoadAN X1 hx (hb hby d_jdk_43_method_2_6) (pc' := 7) rfl rfl rfl ?_
  refine gLoadIN X1 hx (hb hby d_jdk_43_method_2_7) (pc' := 8) rfl rfl ?_
  refine gBaload X1 hx hZ eq1 A (j := (2 : Int32)) (v := (.int (c2.toInt8.toInt32))) (by decide) (by decide) rfl (hb hby d_jdk_43_method_2_8) (pc' := 9) rfl ?_
  refine gSipush X1 hx (v := (255 : Int32)) (hb hby d_jdk_43_method_2_9) (pc' := 12) rfl rfl ?_
  refine gIand X1 hx (hb hby d_jdk_43_method_2_12) (pc' := 13) rfl ?_
  refine gI2c X1 hx (hb hby d_jdk_43_method_2_13) (pc' := 14) rfl ?_
  rw [own_ch hc2]
  exact gRetN X1 hx hlk hret (by simp) (hb hby d_jdk_43_method_2_14) (w := c2) (own_nc (own_c8 hc2)) (by decide) (by decide) (⟨rfl, eq1, rfl⟩)
theorem ef_c_charAt_2_4 (m : MethodId) (a : Addr) : entryFrame m #[(.ref a), (.int (2 : Int32))] 2 = mkF m 0 #[.val (.ref a), .val (.int (2 : Int32))] [] := by first | (simp [entryFrame, mkF, argsToLocals, Value.category]; done) | rfl
set_option maxRecDepth 65536 in
set_option maxHeartbeats 40000000 in
theorem c_charAt_2_4 (l : Launch) (Z : State) (a0 : Array Value) (hw : ∀ d ∈ tables_1, d.before a0 Z = true) (a t : Addr) (ck : ClassId) (c0 c1 c2 c3 : Int32) (h0 : Heap) (hSio : Sio Z h0) (hCpt : Cpt Z h0) (E : Exa Z h0 a "java/lang/String") (C : Fld Z h0 a "java/lang/String" "coder" "B" (.int 0)) (V : Fld Z h0 a "java/lang/String" "value" "[B" (.ref t)) (A : Arv Z h0 t ck .byte 4 [by8 c0, by8 c1, by8 c2, by8 c3] (.int 0)) (hc0 : 0 ≤ c0.toInt ∧ c0.toInt ≤ 255) (hc1 : 0 ≤ c1.toInt ∧ c1.toInt ≤ 255) (hc2 : 0 ≤ c2.toInt ∧ c2.toInt ≤ 255) (hc3 : 0 ≤ c3.toInt ∧ c3.toInt ≤ 255) :
    Ctr l Z (⟨"java/lang/String", "charAt", "(I)C"⟩ : MethodName) jdk_42_method_56_code 2 (some .char) [] ({ frames := 3, cells := 0, slots := 0, locals := 41 } : Room) #[(.ref a), (.int (2 : Int32))] h0 (Just h0 (.int c2)) := by
  refine Ctr.of (plainFor_of_name pn_3) ?_
  intro p e s m below meth c s₁ hx hby hml hret hown hnm hZ hlk X0 e0
  refine Goes.cast (ef_c_charAt_2_4 m a) ?_
  refine gLoadAN X0 hx (hb hby d_jdk_42_method_56_0) (pc' := 1) rfl rfl rfl ?_
  refine gCallVJ X0 hx hZ (y := (⟨"java/lang/String", "isLatin1", "()Z"⟩ : MethodName)) hown e0 (by rw [hml]; rfl) E (hw _ (List.mem_of_getElem? (i := 57) rfl)) (hw _ (List.mem_of_getElem? (i := 58) rfl)) (hw _ (List.mem_of_getElem? (i := 60) rfl)) (hw _ (List.mem_of_getElem? (i := 59) rfl)) (hw _ (List.mem_of_getElem? (i := 4) rfl)) (hw _ (List.mem_of_getElem? (i := 61) rfl)) (by decide) (argsL := []) (st := []) (c_isLatin1 l Z a0 hw a h0 hCpt C) (lenOf pd_3 rfl) (hb hby d_jdk_42_method_56_1) (pc' := 4) rfl rfl rfl rfl (by decide) (W := 0) (Nat.le_of_eq rfl) (by decide) (by decide) (by decide) ?_
  intro T1 X1 e1
  refine gIfEqT X1 hx (hb hby d_jdk_42_method_56_4) (pc' := 16) (by decide) (by decide) (pn := 7) rfl (fun (c4 : (1 : Int) = (0 : Int)) => ?_) (fun (c4 : ¬ (1 : Int) = (0 : Int)) => ?_)
  · exact absurd c4 (by decide)
  · refine gLoadAN X1 hx (hb hby d_jdk_42_method_56_7) (pc' := 8) rfl rfl rfl ?_
    refine gGetF X1 hx hZ hown (hw _ (List.mem_of_getElem? (i := 21) rfl)) Via.refl e1 V (hb hby d_jdk_42_method_56_8) (pc' := 11) rfl (fun T2 X2 e2 => ?_)
    refine gLoadIN X2 hx (hb hby d_jdk_42_method_56_11) (pc' := 12) rfl rfl ?_
    refine gCallSJ X2 hx hZ (y := (⟨"java/lang/StringLatin1", "charAt", "([BI)C"⟩ : MethodName)) hown e2 (by rw [hml]; rfl) (hw _ (List.mem_of_getElem? (i := 62) rfl)) (hw _ (List.mem_of_getElem? (i := 63) rfl)) (hw _ (List.mem_of_getElem? (i := 64) rfl)) (hw _ (List.mem_of_getElem? (i := 65) rfl)) (by decide) (argsL := [(.ref t), (.int (2 : Int32))]) (st := []) (c_charAt_2_4l l Z a0 hw t ck c0 c1 c2 c3 h0 hSio A hc0 hc1 hc2 hc3) (lenOf pd_10 rfl) (hb hby d_jdk_42_method_56_12) (pc' := 15) rfl rfl rfl rfl (by decide) (W := 0) (Nat.le_of_eq rfl) (by decide) (by decide) (by decide) ?_
    intro T3 X3 e3
    exact gRetN X3 hx hlk hret (by simp) (hb hby d_jdk_42_method_56_15) (w := c2) (own_nc (own_c8 hc2)) (by decide) (by decide) (⟨rfl, e3, rfl⟩)
theorem ef_c_chk_3_4p (m : MethodId) (sf : Value) (hsf : sf.isRef = true) : entryFrame m #[(.int (3 : Int32)), (.int (4 : Int32)), sf] 3 = mkF m 0 #[.val (.int (3 : Int32)), .val (.int (4 : Int32)), .val sf] [] := by rcases ref_cases hsf with rfl | ⟨_, rfl⟩ <;> (first | (simp [entryFrame, mkF, argsToLocals, Value.category]; done) | rfl)
set_option maxRecDepth 65536 in
set_option maxHeartbeats 40000000 in
theorem c_chk_3_4p (l : Launch) (Z : State) (a0 : Array Value) (hw : ∀ d ∈ tables_1, d.before a0 Z = true) (sf : Value) (hsf : sf.isRef = true) (h0 : Heap)  :
    Ctr l Z (⟨"jdk/internal/util/Preconditions", "checkIndex", "(IILjava/util/function/BiFunction;)I"⟩ : MethodName) jdk_41_method_11_code 3 (some .int) [] ({ frames := 0, cells := 0, slots := 0, locals := 0 } : Room) #[(.int (3 : Int32)), (.int (4 : Int32)), sf] h0 (Just h0 (.int 3)) := by
  refine Ctr.of (plainFor_of_name pn_6) ?_
  intro p e s m below meth c s₁ hx hby hml hret hown hnm hZ hlk X0 e0
  refine Goes.cast (ef_c_chk_3_4p m sf hsf) ?_
  refine gLoadIN X0 hx (hb hby d_jdk_41_method_11_0) (pc' := 1) rfl rfl ?_
  refine gIfLt X0 hx (hb hby d_jdk_41_method_11_1) (pc' := 9) (by decide) (by decide) (pn := 4) rfl (fun (c1 : (3 : Int) < (0 : Int)) => ?_) (fun (c1 : (0 : Int) ≤ (3 : Int)) => ?_)
  · exact absurd c1 (by decide)
  · refine gLoadIN X0 hx (hb hby d_jdk_41_method_11_4) (pc' := 5) rfl rfl ?_
    refine gLoadIN X0 hx (hb hby d_jdk_41_method_11_5) (pc' := 6) rfl rfl ?_
    refine gIcmpLt X0 hx (hb hby d_jdk_41_method_11_6) (pc' := 16) (by decide) (by decide) (pn := 9) rfl (fun (c6 : (3 : Int) < (4 : Int)) => ?_) (fun (c6 : (4 : Int) ≤ (3 : Int)) => ?_)
    · refine gLoadIN X0 hx (hb hby d_jdk_41_method_11_16) (pc' := 17) rfl rfl ?_
      exact gRetI X0 hx hlk hret (hb hby d_jdk_41_method_11_17) (by decide) (by decide) (⟨rfl, e0, rfl⟩)
    · exact absurd c6 (by decide)
theorem ef_c_chk_3_4 (m : MethodId)  : entryFrame m #[(.int (3 : Int32)), (.int (4 : Int32))] 2 = mkF m 0 #[.val (.int (3 : Int32)), .val (.int (4 : Int32))] [] := by first | (simp [entryFrame, mkF, argsToLocals, Value.category]; done) | rfl
set_option maxRecDepth 65536 in
set_option maxHeartbeats 40000000 in
theorem c_chk_3_4 (l : Launch) (Z : State) (a0 : Array Value) (hw : ∀ d ∈ tables_1, d.before a0 Z = true)  (h0 : Heap) (hSio : Sio Z h0) :
    Ctr l Z (⟨"java/lang/String", "checkIndex", "(II)V"⟩ : MethodName) jdk_42_method_155_code 2 none [] ({ frames := 1, cells := 0, slots := 0, locals := 14 } : Room) #[(.int (3 : Int32)), (.int (4 : Int32))] h0 (fun v h L => v = none ∧ h = h0 ∧ L = []) := by
  refine Ctr.of (plainFor_of_name pn_3) ?_
  intro p e s m below meth c s₁ hx hby hml hret hown hnm hZ hlk X0 e0
  refine Goes.cast (ef_c_chk_3_4 m ) ?_
  obtain ⟨sf, SF, hsf⟩ := hSio
  refine gLoadIN X0 hx (hb hby d_jdk_42_method_155_0) (pc' := 1) rfl rfl ?_
  refine gLoadIN X0 hx (hb hby d_jdk_42_method_155_1) (pc' := 2) rfl rfl ?_
  refine gGetS X0 hx hZ hown (hw _ (List.mem_of_getElem? (i := 69) rfl)) Via.refl e0 SF (hb hby d_jdk_42_method_155_2) (pc' := 5) rfl (fun T1 X1 e1 => ?_)
  refine gCallSJ X1 hx hZ (y := (⟨"jdk/internal/util/Preconditions", "checkIndex", "(IILjava/util/function/BiFunction;)I"⟩ : MethodName)) hown e1 (by rw [hml]; rfl) (hw _ (List.mem_of_getElem? (i := 71) rfl)) (hw _ (List.mem_of_getElem? (i := 72) rfl)) (hw _ (List.mem_of_getElem? (i := 70) rfl)) (hw _ (List.mem_of_getElem? (i := 73) rfl)) (by decide) (argsL := [(.int (3 : Int32)), (.int (4 : Int32)), sf]) (st := []) (c_chk_3_4p l Z a0 hw sf hsf h0) (lenOf pd_7 rfl) (hb hby d_jdk_42_method_155_5) (pc' := 8) rfl rfl rfl rfl (by decide) (W := 0) (Nat.le_of_eq rfl) (by decide) (by decide) (by decide) ?_
  intro T2 X2 e2
  refine gPop X2 hx (hb hby d_jdk_42_method_155_8) (pc' := 9) rfl rfl ?_
  exact gRetV X2 hx hlk hret (hb hby d_jdk_42_method_155_9) (by decide) (by decide) (⟨rfl, e2, rfl⟩)
theorem ef_c_charAt_3_4l (m : MethodId) (t : Addr) : entryFrame m #[(.ref t), (.int (3 : Int32))] 2 = mkF m 0 #[.val (.ref t), .val (.int (3 : Int32))] [] := by first | (simp [entryFrame, mkF, argsToLocals, Value.category]; done) | rfl
set_option maxRecDepth 65536 in
set_option maxHeartbeats 40000000 in
theorem c_charAt_3_4l (l : Launch) (Z : State) (a0 : Array Value) (hw : ∀ d ∈ tables_1, d.before a0 Z = true) (t : Addr) (ck : ClassId) (c0 c1 c2 c3 : Int32) (h0 : Heap) (hSio : Sio Z h0) (A : Arv Z h0 t ck .byte 4 [by8 c0, by8 c1, by8 c2, by8 c3] (.int 0)) (hc0 : 0 ≤ c0.toInt ∧ c0.toInt ≤ 255) (hc1 : 0 ≤ c1.toInt ∧ c1.toInt ≤ 255) (hc2 : 0 ≤ c2.toInt ∧ c2.toInt ≤ 255) (hc3 : 0 ≤ c3.toInt ∧ c3.toInt ≤ 255) :
    Ctr l Z (⟨"java/lang/StringLatin1", "charAt", "([BI)C"⟩ : MethodName) jdk_43_method_2_code 2 (some .char) [] ({ frames := 2, cells := 0, slots := 0, locals := 28 } : Room) #[(.ref t), (.int (3 : Int32))] h0 (Just h0 (.int c3)) := by
  refine Ctr.of (plainFor_of_name pn_4) ?_
  intro p e s m below meth c s₁ hx hby hml hret hown hnm hZ hlk X0 e0
  refine Goes.cast (ef_c_charAt_3_4l m t) ?_
  refine gLoadIN X0 hx (hb hby d_jdk_43_method_2_0) (pc' := 1) rfl rfl ?_
  refine gLoadAN X0 hx (hb hby d_jdk_43_method_2_1) (pc' := 2) rfl rfl rfl ?_
  refine gArrLen X0 hx hZ e0 A (hb hby d_jdk_43_method_2_2) (pc' := 3) rfl ?_
  refine gCallS X0 hx hZ (y := (⟨"java/lang/String", "checkIndex", "(II)V"⟩ : MethodName)) hown e0 (by rw [hml]; rfl) (hw _ (List.mem_of_getElem? (i := 66) rfl)) (hw _ (List.mem_of_getElem? (i := 67) rfl)) (hw _ (List.mem_of_getElem? (i := 4) rfl)) (hw _ (List.mem_of_getElem? (i := 68) rfl)) (by decide) (argsL := [(.int (3 : Int32)), (.int (4 : Int32))]) (st := []) (c_chk_3_4 l Z a0 hw h0 hSio) (lenOf pd_6 rfl) (hb hby d_jdk_43_method_2_3) (pc' := 6) rfl rfl (by decide) (W := 0) (Nat.le_of_eq rfl) (by decide) (by decide) (by decide) ?_
  intro T1 v1 L1 X1 hQ1
  obtain ⟨rfl, eq1, rfl⟩ := hQ1
  rw [List.append_nil] at X1
  refine gLoadAN X1 hx (hb hby d_jdk_43_method_2_6) (pc' := 7) rfl rfl rfl ?_
  refine gLoadIN X1 hx (hb hby d_jdk_43_method_2_7) (pc' := 8) rfl rfl ?_
  refine gBaload X1 hx hZ eq1 A (j := (3 : Int32)) (v := (.int (c3.toInt8.toInt32))) (by decide) (by decide) rfl (hb hby d_jdk_43_method_2_8) (pc' := 9) rfl ?_
  refine gSipush X1 hx (v := (255 : Int32)) (hb hby d_jdk_43_method_2_9) (pc' := 12) rfl rfl ?_
  refine gIand X1 hx (hb hby d_jdk_43_method_2_12) (pc' := 13) rfl ?_
  refine gI2c X1 hx (hb hby d_jdk_43_method_2_13) (pc' := 14) rfl ?_
  rw [own_ch hc3]
  exact gRetN X1 hx hlk hret (by simp) (hb hby d_jdk_43_method_2_14) (w := c3) (own_nc (own_c8 hc3)) (by decide) (by decide) (⟨rfl, eq1, rfl⟩)
theorem ef_c_charAt_3_4 (m : MethodId) (a : Addr) : entryFrame m #[(.ref a), (.int (3 : Int32))] 2 = mkF m 0 #[.val (.ref a), .val (.int (3 : Int32))] [] := by first | (simp [entryFrame, mkF, argsToLocals, Value.category]; done) | rfl
set_option maxRecDepth 65536 in
set_option maxHeartbeats 40000000 in
theorem c_charAt_3_4 (l : Launch) (Z : State) (a0 : Array Value) (hw : ∀ d ∈ tables_1, d.before a0 Z = true) (a t : Addr) (ck : ClassId) (c0 c1 c2 c3 : Int32) (h0 : Heap) (hSio : Sio Z h0) (hCpt : Cpt Z h0) (E : Exa Z h0 a "java/lang/String") (C : Fld Z h0 a "java/lang/String" "coder" "B" (.int 0)) (V : Fld Z h0 a "java/lang/String" "value" "[B" (.ref t)) (A : Arv Z h0 t ck .byte 4 [by8 c0, by8 c1, by8 c2, by8 c3] (.int 0)) (hc0 : 0 ≤ c0.toInt ∧ c0.toInt ≤ 255) (hc1 : 0 ≤ c1.toInt ∧ c1.toInt ≤ 255) (hc2 : 0 ≤ c2.toInt ∧ c2.toInt ≤ 255) (hc3 : 0 ≤ c3.toInt ∧ c3.toInt ≤ 255) :
    Ctr l Z (⟨"java/lang/String", "charAt", "(I)C"⟩ : MethodName) jdk_42_method_56_code 2 (some .char) [] ({ frames := 3, cells := 0, slots := 0, locals := 41 } : Room) #[(.ref a), (.int (3 : Int32))] h0 (Just h0 (.int c3)) := by
  refine Ctr.of (plainFor_of_name pn_3) ?_
  intro p e s m below meth c s₁ hx hby hml hret hown hnm hZ hlk X0 e0
  refine Goes.cast (ef_c_charAt_3_4 m a) ?_
  refine gLoadAN X0 hx (hb hby d_jdk_42_method_56_0) (pc' := 1) rfl rfl rfl ?_
  refine gCallVJ X0 hx hZ (y := (⟨"java/lang/String", "isLatin1", "()Z"⟩ : MethodName)) hown e0 (by rw [hml]; rfl) E (hw _ (List.mem_of_getElem? (i := 57) rfl)) (hw _ (List.mem_of_getElem? (i := 58) rfl)) (hw _ (List.mem_of_getElem? (i := 60) rfl)) (hw _ (List.mem_of_getElem? (i := 59) rfl)) (hw _ (List.mem_of_getElem? (i := 4) rfl)) (hw _ (List.mem_of_getElem? (i := 61) rfl)) (by decide) (argsL := []) (st := []) (c_isLatin1 l Z a0 hw a h0 hCpt C) (lenOf pd_3 rfl) (hb hby d_jdk_42_method_56_1) (pc' := 4) rfl rfl rfl rfl (by decide) (W := 0) (Nat.le_of_eq rfl) (by decide) (by decide) (by decide) ?_
  intro T1 X1 e1
  refine gIfEqT X1 hx (hb hby d_jdk_42_method_56_4) (pc' := 16) (by decide) (by decide) (pn := 7) rfl (fun (c4 : (1 : Int) = (0 : Int)) => ?_) (fun (c4 : ¬ (1 : Int) = (0 : Int)) => ?_)
  · exact absurd c4 (by decide)
  · refine gLoadAN X1 hx (hb hby d_jdk_42_method_56_7) (pc' := 8) rfl rfl rfl ?_
    refine gGetF X1 hx hZ hown (hw _ (List.mem_of_getElem? (i := 21) rfl)) Via.refl e1 V (hb hby d_jdk_42_method_56_8) (pc' := 11) rfl (fun T2 X2 e2 => ?_)
    refine gLoadIN X2 hx (hb hby d_jdk_42_method_56_11) (pc' := 12) rfl rfl ?_
    refine gCallSJ X2 hx hZ (y := (⟨"java/lang/StringLatin1", "charAt", "([BI)C"⟩ : MethodName)) hown e2 (by rw [hml]; rfl) (hw _ (List.mem_of_getElem? (i := 62) rfl)) (hw _ (List.mem_of_getElem? (i := 63) rfl)) (hw _ (List.mem_of_getElem? (i := 64) rfl)) (hw _ (List.mem_of_getElem? (i := 65) rfl)) (by decide) (argsL := [(.ref t), (.int (3 : Int32))]) (st := []) (c_charAt_3_4l l Z a0 hw t ck c0 c1 c2 c3 h0 hSio A hc0 hc1 hc2 hc3) (lenOf pd_10 rfl) (hb hby d_jdk_42_method_56_12) (pc' := 15) rfl rfl rfl rfl (by decide) (W := 0) (Nat.le_of_eq rfl) (by decide) (by decide) (by decide) ?_
    intro T3 X3 e3
    exact gRetN X3 hx hlk hret (by simp) (hb hby d_jdk_42_method_56_15) (w := c3) (own_nc (own_c8 hc3)) (by decide) (by decide) (⟨rfl, e3, rfl⟩)
theorem ef_c_fv_4 (m : MethodId) (a : Addr) : entryFrame m #[(.ref a)] 4 = mkF m 0 #[.val (.ref a), .unset, .unset, .unset] [] := by first | (simp [entryFrame, mkF, argsToLocals, Value.category]; done) | rfl
set_option maxRecDepth 65536 in
set_option maxHeartbeats 40000000 in
theorem c_fv_4 (l : Launch) (Z : State) (a0 : Array Value) (hw : ∀ d ∈ tables_1, d.before a0 Z = true) (a t : Addr) (ck : ClassId) (c0 c1 c2 c3 : Int32) (h0 : Heap) (hSio : Sio Z h0) (hCpt : Cpt Z h0) (E : Exa Z h0 a "java/lang/String") (C : Fld Z h0 a "java/lang/String" "coder" "B" (.int 0)) (V : Fld Z h0 a "java/lang/String" "value" "[B" (.ref t)) (A : Arv Z h0 t ck .byte 4 [by8 c0, by8 c1, by8 c2, by8 c3] (.int 0)) (hc0 : 0 ≤ c0.toInt ∧ c0.toInt ≤ 255) (hc1 : 0 ≤ c1.toInt ∧ c1.toInt ≤ 255) (hc2 : 0 ≤ c2.toInt ∧ c2.toInt ≤ 255) (hc3 : 0 ≤ c3.toInt ∧ c3.toInt ≤ 255) :
    Ctr l Z (⟨"com/example/anteroom/anteroom/HttpSyntax", "isFieldValue", "(Ljava/lang/String;)Z"⟩ : MethodName) prog_7_method_12_code 4 (some .boolean) [] ({ frames := 4, cells := 0, slots := 0, locals := 56 } : Room) #[(.ref a)] h0 (Just h0 (.int (b2i (decide ((c0.toInt = 9 ∨ 32 ≤ c0.toInt ∧ c0.toInt ≠ 127) ∧ (c1.toInt = 9 ∨ 32 ≤ c1.toInt ∧ c1.toInt ≠ 127) ∧ (c2.toInt = 9 ∨ 32 ≤ c2.toInt ∧ c2.toInt ≠ 127) ∧ (c3.toInt = 9 ∨ 32 ≤ c3.toInt ∧ c3.toInt ≠ 127)))))) := by
  refine Ctr.of (plainFor_of_name pn_0) ?_
  intro p e s m below meth c s₁ hx hby hml hret hown hnm hZ hlk X0 e0
  refine Goes.cast (ef_c_fv_4 m a) ?_
  refine gIconst X0 hx (v := (1 : Int32)) (hb hby d_prog_7_method_12_0) (pc' := 1) rfl rfl ?_
  refine gStoreIN X0 hx (hb hby d_prog_7_method_12_1) (l' := #[.val (.ref a), .val (.int (1 : Int32)), .unset, .unset]) (pc' := 2) rfl rfl ?_
  refine gIconst X0 hx (v := (0 : Int32)) (hb hby d_prog_7_method_12_2) (pc' := 3) rfl rfl ?_
  refine gStoreIN X0 hx (hb hby d_prog_7_method_12_3) (l' := #[.val (.ref a), .val (.int (1 : Int32)), .val (.int (0 : Int32)), .unset]) (pc' := 4) rfl rfl ?_
  refine gLoadIN X0 hx (hb hby d_prog_7_method_12_4) (pc' := 5) rfl rfl ?_
  refine gLoadAN X0 hx (hb hby d_prog_7_method_12_5) (pc' := 6) rfl rfl rfl ?_
  refine gCallVJ X0 hx hZ (y := (⟨"java/lang/String", "length", "()I"⟩ : MethodName)) hown e0 (by rw [hml]; rfl) E (hw _ (List.mem_of_getElem? (i := 27) rfl)) (hw _ (List.mem_of_getElem? (i := 28) rfl)) (hw _ (List.mem_of_getElem? (i := 30) rfl)) (hw _ (List.mem_of_getElem? (i := 29) rfl)) (hw _ (List.mem_of_getElem? (i := 4) rfl)) (hw _ (List.mem_of_getElem? (i := 31) rfl)) (by decide) (argsL := []) (st := [(.int (0 : Int32))]) (c_length_4 l Z a0 hw a t ck c0 c1 c2 c3 h0 hCpt E C V A hc0 hc1 hc2 hc3) (lenOf pd_1 rfl) (hb hby d_prog_7_method_12_6) (pc' := 9) rfl rfl rfl rfl (by decide) (W := 1) (Nat.le_of_eq rfl) (by decide) (by decide) (by decide) ?_
  intro T1 X1 e1
  refine gIcmpGe X1 hx (hb hby d_prog_7_method_12_9) (pc' := 52) (by decide) (by decide) (pn := 12) rfl (fun (c9 : (4 : Int) ≤ (0 : Int)) => ?_) (fun (c9 : (0 : Int) < (4 : Int)) => ?_)
  · exact absurd c9 (by decide)
  · refine gLoadAN X1 hx (hb hby d_prog_7_method_12_12) (pc' := 13) rfl rfl rfl ?_
    refine gLoadIN X1 hx (hb hby d_prog_7_method_12_13) (pc' := 14) rfl rfl ?_
    refine gCallVJ X1 hx hZ (y := (⟨"java/lang/String", "charAt", "(I)C"⟩ : MethodName)) hown e1 (by rw [hml]; rfl) E (hw _ (List.mem_of_getElem? (i := 52) rfl)) (hw _ (List.mem_of_getElem? (i := 53) rfl)) (hw _ (List.mem_of_getElem? (i := 55) rfl)) (hw _ (List.mem_of_getElem? (i := 54) rfl)) (hw _ (List.mem_of_getElem? (i := 4) rfl)) (hw _ (List.mem_of_getElem? (i := 56) rfl)) (by decide) (argsL := [(.int (0 : Int32))]) (st := []) (c_charAt_0_4 l Z a0 hw a t ck c0 c1 c2 c3 h0 hSio hCpt E C V A hc0 hc1 hc2 hc3) (lenOf pd_5 rfl) (hb hby d_prog_7_method_12_14) (pc' := 17) rfl rfl rfl rfl (by decide) (W := 0) (Nat.le_of_eq rfl) (by decide) (by decide) (by decide) ?_
    intro T2 X2 e2
    refine gStoreIN X2 hx (hb hby d_prog_7_method_12_17) (l' := #[.val (.ref a), .val (.int (1 : Int32)), .val (.int (0 : Int32)), .val (.int c0)]) (pc' := 18) rfl rfl ?_
    refine gLoadIN X2 hx (hb hby d_prog_7_method_12_18) (pc' := 19) rfl rfl ?_
    refine gIfEqT X2 hx (hb hby d_prog_7_method_12_19) (pc' := 44) (by decide) (by decide) (pn := 22) rfl (fun (c19 : (1 : Int) = (0 : Int)) => ?_) (fun (c19 : ¬ (1 : Int) = (0 : Int)) => ?_)
    · exact absurd c19 (by decide)
    · refine gLoadIN X2 hx (hb hby d_prog_7_method_12_22) (pc' := 23) rfl rfl ?_
      refine gBipush X2 hx (v := (32 : Int32)) (hb hby d_prog_7_method_12_23) (pc' := 25) rfl rfl ?_
      refine gIcmpGe X2 hx (hb hby d_prog_7_method_12_25) (pc' := 34) (by decide) (by decide) (pn := 28) rfl (fun (c25 : (32 : Int) ≤ c0.toInt) => ?_) (fun (c25 : c0.toInt < (32 : Int)) => ?_)
      · refine gLoadIN X2 hx (hb hby d_prog_7_method_12_34) (pc' := 35) rfl rfl ?_
        refine gBipush X2 hx (v := (127 : Int32)) (hb hby d_prog_7_method_12_35) (pc' := 37) rfl rfl ?_
        refine gIcmpEqT X2 hx (hb hby d_prog_7_method_12_37) (pc' := 44) (by decide) (by decide) (pn := 40) rfl (fun (c37 : c0.toInt = (127 : Int)) => ?_) (fun (c37 : ¬ c0.toInt = (127 : Int)) => ?_)
        · refine gIconst X2 hx (v := (0 : Int32)) (hb hby d_prog_7_method_12_44) (pc' := 45) rfl rfl ?_
          refine gStoreIN X2 hx (hb hby d_prog_7_method_12_45) (l' := #[.val (.ref a), .val (.int (0 : Int32)), .val (.int (0 : Int32)), .val (.int c0)]) (pc' := 46) rfl rfl ?_
          refine gIinc X2 hx (v := (1 : Int32)) (hb hby d_prog_7_method_12_46) (l' := #[.val (.ref a), .val (.int (0 : Int32)), .val (.int (1 : Int32)), .val (.int c0)]) (pc' := 49) rfl rfl rfl rfl ?_
          refine gGoto X2 hx (hb hby d_prog_7_method_12_49) (pc' := 4) (by decide) (by decide) ?_
          refine gLoadIN X2 hx (hb hby d_prog_7_method_12_4) (pc' := 5) rfl rfl ?_
          refine gLoadAN X2 hx (hb hby d_prog_7_method_12_5) (pc' := 6) rfl rfl rfl ?_
          refine gCallVJ X2 hx hZ (y := (⟨"java/lang/String", "length", "()I"⟩ : MethodName)) hown e2 (by rw [hml]; rfl) E (hw _ (List.mem_of_getElem? (i := 27) rfl)) (hw _ (List.mem_of_getElem? (i := 28) rfl)) (hw _ (List.mem_of_getElem? (i := 30) rfl)) (hw _ (List.mem_of_getElem? (i := 29) rfl)) (hw _ (List.mem_of_getElem? (i := 4) rfl)) (hw _ (List.mem_of_getElem? (i := 31) rfl)) (by decide) (argsL := []) (st := [(.int (1 : Int32))]) (c_length_4 l Z a0 hw a t ck c0 c1 c2 c3 h0 hCpt E C V A hc0 hc1 hc2 hc3) (lenOf pd_1 rfl) (hb hby d_prog_7_method_12_6) (pc' := 9) rfl rfl rfl rfl (by decide) (W := 1) (Nat.le_of_eq rfl) (by decide) (by decide) (by decide) ?_
          intro T3 X3 e3
          refine gIcmpGe X3 hx (hb hby d_prog_7_method_12_9) (pc' := 52) (by decide) (by decide) (pn := 12) rfl (fun (c9' : (4 : Int) ≤ (1 : Int)) => ?_) (fun (c9' : (1 : Int) < (4 : Int)) => ?_)
          · exact absurd c9' (by decide)
          · refine gLoadAN X3 hx (hb hby d_prog_7_method_12_12) (pc' := 13) rfl rfl rfl ?_
            refine gLoadIN X3 hx (hb hby d_prog_7_method_12_13) (pc' := 14) rfl rfl ?_
            refine gCallVJ X3 hx hZ (y := (⟨"java/lang/String", "charAt", "(I)C"⟩ : MethodName)) hown e3 (by rw [hml]; rfl) E (hw _ (List.mem_of_getElem? (i := 52) rfl)) (hw _ (List.mem_of_getElem? (i := 53) rfl)) (hw _ (List.mem_of_getElem? (i := 55) rfl)) (hw _ (List.mem_of_getElem? (i := 54) rfl)) (hw _ (List.mem_of_getElem? (i := 4) rfl)) (hw _ (List.mem_of_getElem? (i := 56) rfl)) (by decide) (argsL := [(.int (1 : Int32))]) (st := []) (c_charAt_1_4 l Z a0 hw a t ck c0 c1 c2 c3 h0 hSio hCpt E C V A hc0 hc1 hc2 hc3) (lenOf pd_5 rfl) (hb hby d_prog_7_method_12_14) (pc' := 17) rfl rfl rfl rfl (by decide) (W := 0) (Nat.le_of_eq rfl) (by decide) (by decide) (by decide) ?_
            intro T4 X4 e4
            refine gStoreIN X4 hx (hb hby d_prog_7_method_12_17) (l' := #[.val (.ref a), .val (.int (0 : Int32)), .val (.int (1 : Int32)), .val (.int c1)]) (pc' := 18) rfl rfl ?_
            refine gLoadIN X4 hx (hb hby d_prog_7_method_12_18) (pc' := 19) rfl rfl ?_
            refine gIfEqT X4 hx (hb hby d_prog_7_method_12_19) (pc' := 44) (by decide) (by decide) (pn := 22) rfl (fun (c19' : (0 : Int) = (0 : Int)) => ?_) (fun (c19' : ¬ (0 : Int) = (0 : Int)) => ?_)
            · refine gIconst X4 hx (v := (0 : Int32)) (hb hby d_prog_7_method_12_44) (pc' := 45) rfl rfl ?_
              refine gStoreIN X4 hx (hb hby d_prog_7_method_12_45) (l' := #[.val (.ref a), .val (.int (0 : Int32)), .val (.int (1 : Int32)), .val (.int c1)]) (pc' := 46) rfl rfl ?_
              refine gIinc X4 hx (v := (1 : Int32)) (hb hby d_prog_7_method_12_46) (l' := #[.val (.ref a), .val (.int (0 : Int32)), .val (.int (2 : Int32)), .val (.int c1)]) (pc' := 49) rfl rfl rfl rfl ?_
              refine gGoto X4 hx (hb hby d_prog_7_method_12_49) (pc' := 4) (by decide) (by decide) ?_
              refine gLoadIN X4 hx (hb hby d_prog_7_method_12_4) (pc' := 5) rfl rfl ?_
              refine gLoadAN X4 hx (hb hby d_prog_7_method_12_5) (pc' := 6) rfl rfl rfl ?_
              refine gCallVJ X4 hx hZ (y := (⟨"java/lang/String", "length", "()I"⟩ : MethodName)) hown e4 (by rw [hml]; rfl) E (hw _ (List.mem_of_getElem? (i := 27) rfl)) (hw _ (List.mem_of_getElem? (i := 28) rfl)) (hw _ (List.mem_of_getElem? (i := 30) rfl)) (hw _ (List.mem_of_getElem? (i := 29) rfl)) (hw _ (List.mem_of_getElem? (i := 4) rfl)) (hw _ (List.mem_of_getElem? (i := 31) rfl)) (by decide) (argsL := []) (st := [(.int (2 : Int32))]) (c_length_4 l Z a0 hw a t ck c0 c1 c2 c3 h0 hCpt E C V A hc0 hc1 hc2 hc3) (lenOf pd_1 rfl) (hb hby d_prog_7_method_12_6) (pc' := 9) rfl rfl rfl rfl (by decide) (W := 1) (Nat.le_of_eq rfl) (by decide) (by decide) (by decide) ?_
              intro T5 X5 e5
              refine gIcmpGe X5 hx (hb hby d_prog_7_method_12_9) (pc' := 52) (by decide) (by decide) (pn := 12) rfl (fun (c9'' : (4 : Int) ≤ (2 : Int)) => ?_) (fun (c9'' : (2 : Int) < (4 : Int)) => ?_)
              · exact absurd c9'' (by decide)
              · refine gLoadAN X5 hx (hb hby d_prog_7_method_12_12) (pc' := 13) rfl rfl rfl ?_
                refine gLoadIN X5 hx (hb hby d_prog_7_method_12_13) (pc' := 14) rfl rfl ?_
                refine gCallVJ X5 hx hZ (y := (⟨"java/lang/String", "charAt", "(I)C"⟩ : MethodName)) hown e5 (by rw [hml]; rfl) E (hw _ (List.mem_of_getElem? (i := 52) rfl)) (hw _ (List.mem_of_getElem? (i := 53) rfl)) (hw _ (List.mem_of_getElem? (i := 55) rfl)) (hw _ (List.mem_of_getElem? (i := 54) rfl)) (hw _ (List.mem_of_getElem? (i := 4) rfl)) (hw _ (List.mem_of_getElem? (i := 56) rfl)) (by decide) (argsL := [(.int (2 : Int32))]) (st := []) (c_charAt_2_4 l Z a0 hw a t ck c0 c1 c2 c3 h0 hSio hCpt E C V A hc0 hc1 hc2 hc3) (lenOf pd_5 rfl) (hb hby d_prog_7_method_12_14) (pc' := 17) rfl rfl rfl rfl (by decide) (W := 0) (Nat.le_of_eq rfl) (by decide) (by decide) (by decide) ?_
                intro T6 X6 e6
                refine gStoreIN X6 hx (hb hby d_prog_7_method_12_17) (l' := #[.val (.ref a), .val (.int (0 : Int32)), .val (.int (2 : Int32)), .val (.int c2)]) (pc' := 18) rfl rfl ?_
                refine gLoadIN X6 hx (hb hby d_prog_7_method_12_18) (pc' := 19) rfl rfl ?_
                refine gIfEqT X6 hx (hb hby d_prog_7_method_12_19) (pc' := 44) (by decide) (by decide) (pn := 22) rfl (fun (c19'' : (0 : Int) = (0 : Int)) => ?_) (fun (c19'' : ¬ (0 : Int) = (0 : Int)) => ?_)
                · refine gIconst X6 hx (v := (0 : Int32)) (hb hby d_prog_7_method_12_44) (pc' := 45) rfl rfl ?_
                  refine gStoreIN X6 hx (hb hby d_prog_7_method_12_45) (l' := #[.val (.ref a), .val (.int (0 : Int32)), .val (.int (2 : Int32)), .val (.int c2)]) (pc' := 46) rfl rfl ?_
                  refine gIinc X6 hx (v := (1 : Int32)) (hb hby d_prog_7_method_12_46) (l' := #[.val (.ref a), .val (.int (0 : Int32)), .val (.int (3 : Int32)), .val (.int c2)]) (pc' := 49) rfl rfl rfl rfl ?_
                  refine gGoto X6 hx (hb hby d_prog_7_method_12_49) (pc' := 4) (by decide) (by decide) ?_
                  refine gLoadIN X6 hx (hb hby d_prog_7_method_12_4) (pc' := 5) rfl rfl ?_
                  refine gLoadAN X6 hx (hb hby d_prog_7_method_12_5) (pc' := 6) rfl rfl rfl ?_
                  refine gCallVJ X6 hx hZ (y := (⟨"java/lang/String", "length", "()I"⟩ : MethodName)) hown e6 (by rw [hml]; rfl) E (hw _ (List.mem_of_getElem? (i := 27) rfl)) (hw _ (List.mem_of_getElem? (i := 28) rfl)) (hw _ (List.mem_of_getElem? (i := 30) rfl)) (hw _ (List.mem_of_getElem? (i := 29) rfl)) (hw _ (List.mem_of_getElem? (i := 4) rfl)) (hw _ (List.mem_of_getElem? (i := 31) rfl)) (by decide) (argsL := []) (st := [(.int (3 : Int32))]) (c_length_4 l Z a0 hw a t ck c0 c1 c2 c3 h0 hCpt E C V A hc0 hc1 hc2 hc3) (lenOf pd_1 rfl) (hb hby d_prog_7_method_12_6) (pc' := 9) rfl rfl rfl rfl (by decide) (W := 1) (Nat.le_of_eq rfl) (by decide) (by decide) (by decide) ?_
                  intro T7 X7 e7
                  refine gIcmpGe X7 hx (hb hby d_prog_7_method_12_9) (pc' := 52) (by decide) (by decide) (pn := 12) rfl (fun (c9''' : (4 : Int) ≤ (3 : Int)) => ?_) (fun (c9''' : (3 : Int) < (4 : Int)) => ?_)
                  · exact absurd c9''' (by decide)
                  · refine gLoadAN X7 hx (hb hby d_prog_7_method_12_12) (pc' := 13) rfl rfl rfl ?_
                    refine gLoadIN X7 hx (hb hby d_prog_7_method_12_13) (pc' := 14) rfl rfl ?_
                    refine gCallVJ X7 hx hZ (y := (⟨"java/lang/String", "charAt", "(I)C"⟩ : MethodName)) hown e7 (by rw [hml]; rfl) E (hw _ (List.mem_of_getElem? (i := 52) rfl)) (hw _ (List.mem_of_getElem? (i := 53) rfl)) (hw _ (List.mem_of_getElem? (i := 55) rfl)) (hw _ (List.mem_of_getElem? (i := 54) rfl)) (hw _ (List.mem_of_getElem? (i := 4) rfl)) (hw _ (List.mem_of_getElem? (i := 56) rfl)) (by decide) (argsL := [(.int (3 : Int32))]) (st := []) (c_charAt_3_4 l Z a0 hw a t ck c0 c1 c2 c3 h0 hSio hCpt E C V A hc0 hc1 hc2 hc3) (lenOf pd_5 rfl) (hb hby d_prog_7_method_12_14) (pc' := 17) rfl rfl rfl rfl (by decide) (W := 0) (Nat.le_of_eq rfl) (by decide) (by decide) (by decide) ?_
                    intro T8 X8 e8
                    refine gStoreIN X8 hx (hb hby d_prog_7_method_12_17) (l' := #[.val (.ref a), .val (.int (0 : Int32)), .val (.int (3 : Int32)), .val (.int c3)]) (pc' := 18) rfl rfl ?_
                    refine gLoadIN X8 hx (hb hby d_prog_7_method_12_18) (pc' := 19) rfl rfl ?_
                    refine gIfEqT X8 hx (hb hby d_prog_7_method_12_19) (pc' := 44) (by decide) (by decide) (pn := 22) rfl (fun (c19''' : (0 : Int) = (0 : Int)) => ?_) (fun (c19''' : ¬ (0 : Int) = (0 : Int)) => ?_)
                    · refine gIconst X8 hx (v := (0 : Int32)) (hb hby d_prog_7_method_12_44) (pc' := 45) rfl rfl ?_
                      refine gStoreIN X8 hx (hb hby d_prog_7_method_12_45) (l' := #[.val (.ref a), .val (.int (0 : Int32)), .val (.int (3 : Int32)), .val (.int c3)]) (pc' := 46) rfl rfl ?_
                      refine gIinc X8 hx (v := (1 : Int32)) (hb hby d_prog_7_method_12_46) (l' := #[.val (.ref a), .val (.int (0 : Int32)), .val (.int (4 : Int32)), .val (.int c3)]) (pc' := 49) rfl rfl rfl rfl ?_
                      refine gGoto X8 hx (hb hby d_prog_7_method_12_49) (pc' := 4) (by decide) (by decide) ?_
                      refine gLoadIN X8 hx (hb hby d_prog_7_method_12_4) (pc' := 5) rfl rfl ?_
                      refine gLoadAN X8 hx (hb hby d_prog_7_method_12_5) (pc' := 6) rfl rfl rfl ?_
                      refine gCallVJ X8 hx hZ (y := (⟨"java/lang/String", "length", "()I"⟩ : MethodName)) hown e8 (by rw [hml]; rfl) E (hw _ (List.mem_of_getElem? (i := 27) rfl)) (hw _ (List.mem_of_getElem? (i := 28) rfl)) (hw _ (List.mem_of_getElem? (i := 30) rfl)) (hw _ (List.mem_of_getElem? (i := 29) rfl)) (hw _ (List.mem_of_getElem? (i := 4) rfl)) (hw _ (List.mem_of_getElem? (i := 31) rfl)) (by decide) (argsL := []) (st := [(.int (4 : Int32))]) (c_length_4 l Z a0 hw a t ck c0 c1 c2 c3 h0 hCpt E C V A hc0 hc1 hc2 hc3) (lenOf pd_1 rfl) (hb hby d_prog_7_method_12_6) (pc' := 9) rfl rfl rfl rfl (by decide) (W := 1) (Nat.le_of_eq rfl) (by decide) (by decide) (by decide) ?_
                      intro T9 X9 e9
                      refine gIcmpGe X9 hx (hb hby d_prog_7_method_12_9) (pc' := 52) (by decide) (by decide) (pn := 12) rfl (fun (c9'''' : (4 : Int) ≤ (4 : Int)) => ?_) (fun (c9'''' : (4 : Int) < (4 : Int)) => ?_)
                      · refine gLoadIN X9 hx (hb hby d_prog_7_method_12_52) (pc' := 53) rfl rfl ?_
                        exact gRetN X9 hx hlk hret (by simp) (hb hby d_prog_7_method_12_53) (w := (0 : Int32)) rfl (by decide) (by decide) (just_f (by omega) e9)
                      · exact absurd c9'''' (by decide)
                    · exact absurd c19''' (by decide)
                · exact absurd c19'' (by decide)
            · exact absurd c19' (by decide)
        · refine gIconst X2 hx (v := (1 : Int32)) (hb hby d_prog_7_method_12_40) (pc' := 41) rfl rfl ?_
          refine gGoto X2 hx (hb hby d_prog_7_method_12_41) (pc' := 45) (by decide) (by decide) ?_
          refine gStoreIN X2 hx (hb hby d_prog_7_method_12_45) (l' := #[.val (.ref a), .val (.int (1 : Int32)), .val (.int (0 : Int32)), .val (.int c0)]) (pc' := 46) rfl rfl ?_
          refine gIinc X2 hx (v := (1 : Int32)) (hb hby d_prog_7_method_12_46) (l' := #[.val (.ref a), .val (.int (1 : Int32)), .val (.int (1 : Int32)), .val (.int c0)]) (pc' := 49) rfl rfl rfl rfl ?_
          refine gGoto X2 hx (hb hby d_prog_7_method_12_49) (pc' := 4) (by decide) (by decide) ?_
          refine gLoadIN X2 hx (hb hby d_prog_7_method_12_4) (pc' := 5) rfl rfl ?_
          refine gLoadAN X2 hx (hb hby d_prog_7_method_12_5) (pc' := 6) rfl rfl rfl ?_
          refine gCallVJ X2 hx hZ (y := (⟨"java/lang/String", "length", "()I"⟩ : MethodName)) hown e2 (by rw [hml]; rfl) E (hw _ (List.mem_of_getElem? (i := 27) rfl)) (hw _ (List.mem_of_getElem? (i := 28) rfl)) (hw _ (List.mem_of_getElem? (i := 30) rfl)) (hw _ (List.mem_of_getElem? (i := 29) rfl)) (hw _ (List.mem_of_getElem? (i := 4) rfl)) (hw _ (List.mem_of_getElem? (i := 31) rfl)) (by decide) (argsL := []) (st := [(.int (1 : Int32))]) (c_length_4 l Z a0 hw a t ck c0 c1 c2 c3 h0 hCpt E C V A hc0 hc1 hc2 hc3) (lenOf pd_1 rfl) (hb hby d_prog_7_method_12_6) (pc' := 9) rfl rfl rfl rfl (by decide) (W := 1) (Nat.le_of_eq rfl) (by decide) (by decide) (by decide) ?_
          intro T10 X10 e10
          refine gIcmpGe X10 hx (hb hby d_prog_7_method_12_9) (pc' := 52) (by decide) (by decide) (pn := 12) rfl (fun (c9' : (4 : Int) ≤ (1 : Int)) => ?_) (fun (c9' : (1 : Int) < (4 : Int)) => ?_)
          · exact absurd c9' (by decide)
          · refine gLoadAN X10 hx (hb hby d_prog_7_method_12_12) (pc' := 13) rfl rfl rfl ?_
            refine gLoadIN X10 hx (hb hby d_prog_7_method_12_13) (pc' := 14) rfl rfl ?_
            refine gCallVJ X10 hx hZ (y := (⟨"java/lang/String", "charAt", "(I)C"⟩ : MethodName)) hown e10 (by rw [hml]; rfl) E (hw _ (List.mem_of_getElem? (i := 52) rfl)) (hw _ (List.mem_of_getElem? (i := 53) rfl)) (hw _ (List.mem_of_getElem? (i := 55) rfl)) (hw _ (List.mem_of_getElem? (i := 54) rfl)) (hw _ (List.mem_of_getElem? (i := 4) rfl)) (hw _ (List.mem_of_getElem? (i := 56) rfl)) (by decide) (argsL := [(.int (1 : Int32))]) (st := []) (c_charAt_1_4 l Z a0 hw a t ck c0 c1 c2 c3 h0 hSio hCpt E C V A hc0 hc1 hc2 hc3) (lenOf pd_5 rfl) (hb hby d_prog_7_method_12_14) (pc' := 17) rfl rfl rfl rfl (by decide) (W := 0) (Nat.le_of_eq rfl) (by decide) (by decide) (by decide) ?_
            intro T11 X11 e11
            refine gStoreIN X11 hx (hb hby d_prog_7_method_12_17) (l' := #[.val (.ref a), .val (.int (1 : Int32)), .val (.int (1 : Int32)), .val (.int c1)]) (pc' := 18) rfl rfl ?_
            refine gLoadIN X11 hx (hb hby d_prog_7_method_12_18) (pc' := 19) rfl rfl ?_
            refine gIfEqT X11 hx (hb hby d_prog_7_method_12_19) (pc' := 44) (by decide) (by decide) (pn := 22) rfl (fun (c19' : (1 : Int) = (0 : Int)) => ?_) (fun (c19' : ¬ (1 : Int) = (0 : Int)) => ?_)
            · exact absurd c19' (by decide)
            · refine gLoadIN X11 hx (hb hby d_prog_7_method_12_22) (pc' := 23) rfl rfl ?_
              refine gBipush X11 hx (v := (32 : Int32)) (hb hby d_prog_7_method_12_23) (pc' := 25) rfl rfl ?_
              refine gIcmpGe X11 hx (hb hby d_prog_7_method_12_25) (pc' := 34) (by decide) (by decide) (pn := 28) rfl (fun (c25' : (32 : Int) ≤ c1.toInt) => ?_) (fun (c25' : c1.toInt < (32 : Int)) => ?_)
              · refine gLoadIN X11 hx (hb hby d_prog_7_method_12_34) (pc' := 35) rfl rfl ?_
                refine gBipush X11 hx (v := (127 : Int32)) (hb hby d_prog_7_method_12_35) (pc' := 37) rfl rfl ?_
                refine gIcmpEqT X11 hx (hb hby d_prog_7_method_12_37) (pc' := 44) (by decide) (by decide) (pn := 40) rfl (fun (c37' : c1.toInt = (127 : Int)) => ?_) (fun (c37' : ¬ c1.toInt = (127 : Int)) => ?_)
                · refine gIconst X11 hx (v := (0 : Int32)) (hb hby d_prog_7_method_12_44) (pc' := 45) rfl rfl ?_
                  refine gStoreIN X11 hx (hb hby d_prog_7_method_12_45) (l' := #[.val (.ref a), .val (.int (0 : Int32)), .val (.int (1 : Int32)), .val (.int c1)]) (pc' := 46) rfl rfl ?_
                  refine gIinc X11 hx (v := (1 : Int32)) (hb hby d_prog_7_method_12_46) (l' := #[.val (.ref a), .val (.int (0 : Int32)), .val (.int (2 : Int32)), .val (.int c1)]) (pc' := 49) rfl rfl rfl rfl ?_
                  refine gGoto X11 hx (hb hby d_prog_7_method_12_49) (pc' := 4) (by decide) (by decide) ?_
                  refine gLoadIN X11 hx (hb hby d_prog_7_method_12_4) (pc' := 5) rfl rfl ?_
                  refine gLoadAN X11 hx (hb hby d_prog_7_method_12_5) (pc' := 6) rfl rfl rfl ?_
                  refine gCallVJ X11 hx hZ (y := (⟨"java/lang/String", "length", "()I"⟩ : MethodName)) hown e11 (by rw [hml]; rfl) E (hw _ (List.mem_of_getElem? (i := 27) rfl)) (hw _ (List.mem_of_getElem? (i := 28) rfl)) (hw _ (List.mem_of_getElem? (i := 30) rfl)) (hw _ (List.mem_of_getElem? (i := 29) rfl)) (hw _ (List.mem_of_getElem? (i := 4) rfl)) (hw _ (List.mem_of_getElem? (i := 31) rfl)) (by decide) (argsL := []) (st := [(.int (2 : Int32))]) (c_length_4 l Z a0 hw a t ck c0 c1 c2 c3 h0 hCpt E C V A hc0 hc1 hc2 hc3) (lenOf pd_1 rfl) (hb hby d_prog_7_method_12_6) (pc' := 9) rfl rfl rfl rfl (by decide) (W := 1) (Nat.le_of_eq rfl) (by decide) (by decide) (by decide) ?_
                  intro T12 X12 e12
                  refine gIcmpGe X12 hx (hb hby d_prog_7_method_12_9) (pc' := 52) (by decide) (by decide) (pn := 12) rfl (fun (c9'' : (4 : Int) ≤ (2 : Int)) => ?_) (fun (c9'' : (2 : Int) < (4 : Int)) => ?_)
                  · exact absurd c9'' (by decide)
                  · refine gLoadAN X12 hx (hb hby d_prog_7_method_12_12) (pc' := 13) rfl rfl rfl ?_
                    refine gLoadIN X12 hx (hb hby d_prog_7_method_12_13) (pc' := 14) rfl rfl ?_
                    refine gCallVJ X12 hx hZ (y := (⟨"java/lang/String", "charAt", "(I)C"⟩ : MethodName)) hown e12 (by rw [hml]; rfl) E (hw _ (List.mem_of_getElem? (i := 52) rfl)) (hw _ (List.mem_of_getElem? (i := 53) rfl)) (hw _ (List.mem_of_getElem? (i := 55) rfl)) (hw _ (List.mem_of_getElem? (i := 54) rfl)) (hw _ (List.mem_of_getElem? (i := 4) rfl)) (hw _ (List.mem_of_getElem? (i := 56) rfl)) (by decide) (argsL := [(.int (2 : Int32))]) (st := []) (c_charAt_2_4 l Z a0 hw a t ck c0 c1 c2 c3 h0 hSio hCpt E C V A hc0 hc1 hc2 hc3) (lenOf pd_5 rfl) (hb hby d_prog_7_method_12_14) (pc' := 17) rfl rfl rfl rfl (by decide) (W := 0) (Nat.le_of_eq rfl) (by decide) (by decide) (by decide) ?_
                    intro T13 X13 e13
                    refine gStoreIN X13 hx (hb hby d_prog_7_method_12_17) (l' := #[.val (.ref a), .val (.int (0 : Int32)), .val (.int (2 : Int32)), .val (.int c2)]) (pc' := 18) rfl rfl ?_
                    refine gLoadIN X13 hx (hb hby d_prog_7_method_12_18) (pc' := 19) rfl rfl ?_
                    refine gIfEqT X13 hx (hb hby d_prog_7_method_12_19) (pc' := 44) (by decide) (by decide) (pn := 22) rfl (fun (c19'' : (0 : Int) = (0 : Int)) => ?_) (fun (c19'' : ¬ (0 : Int) = (0 : Int)) => ?_)
                    · refine gIconst X13 hx (v := (0 : Int32)) (hb hby d_prog_7_method_12_44) (pc' := 45) rfl rfl ?_
                      refine gStoreIN X13 hx (hb hby d_prog_7_method_12_45) (l' := #[.val (.ref a), .val (.int (0 : Int32)), .val (.int (2 : Int32)), .val (.int c2)]) (pc' := 46) rfl rfl ?_
                      refine gIinc X13 hx (v := (1 : Int32)) (hb hby d_prog_7_method_12_46) (l' := #[.val (.ref a), .val (.int (0 : Int32)), .val (.int (3 : Int32)), .val (.int c2)]) (pc' := 49) rfl rfl rfl rfl ?_
                      refine gGoto X13 hx (hb hby d_prog_7_method_12_49) (pc' := 4) (by decide) (by decide) ?_
                      refine gLoadIN X13 hx (hb hby d_prog_7_method_12_4) (pc' := 5) rfl rfl ?_
                      refine gLoadAN X13 hx (hb hby d_prog_7_method_12_5) (pc' := 6) rfl rfl rfl ?_
                      refine gCallVJ X13 hx hZ (y := (⟨"java/lang/String", "length", "()I"⟩ : MethodName)) hown e13 (by rw [hml]; rfl) E (hw _ (List.mem_of_getElem? (i := 27) rfl)) (hw _ (List.mem_of_getElem? (i := 28) rfl)) (hw _ (List.mem_of_getElem? (i := 30) rfl)) (hw _ (List.mem_of_getElem? (i := 29) rfl)) (hw _ (List.mem_of_getElem? (i := 4) rfl)) (hw _ (List.mem_of_getElem? (i := 31) rfl)) (by decide) (argsL := []) (st := [(.int (3 : Int32))]) (c_length_4 l Z a0 hw a t ck c0 c1 c2 c3 h0 hCpt E C V A hc0 hc1 hc2 hc3) (lenOf pd_1 rfl) (hb hby d_prog_7_method_12_6) (pc' := 9) rfl rfl rfl rfl (by decide) (W := 1) (Nat.le_of_eq rfl) (by decide) (by decide) (by decide) ?_
                      intro T14 X14 e14
                      refine gIcmpGe X14 hx (hb hby d_prog_7_method_12_9) (pc' := 52) (by decide) (by decide) (pn := 12) rfl (fun (c9''' : (4 : Int) ≤ (3 : Int)) => ?_) (fun (c9''' : (3 : Int) < (4 : Int)) => ?_)
                      · exact absurd c9''' (by decide)
                      · refine gLoadAN X14 hx (hb hby d_prog_7_method_12_12) (pc' := 13) rfl rfl rfl ?_
                        refine gLoadIN X14 hx (hb hby d_prog_7_method_12_13) (pc' := 14) rfl rfl ?_
                        refine gCallVJ X14 hx hZ (y := (⟨"java/lang/String", "charAt", "(I)C"⟩ : MethodName)) hown e14 (by rw [hml]; rfl) E (hw _ (List.mem_of_getElem? (i := 52) rfl)) (hw _ (List.mem_of_getElem? (i := 53) rfl)) (hw _ (List.mem_of_getElem? (i := 55) rfl)) (hw _ (List.mem_of_getElem? (i := 54) rfl)) (hw _ (List.mem_of_getElem? (i := 4) rfl)) (hw _ (List.mem_of_getElem? (i := 56) rfl)) (by decide) (argsL := [(.int (3 : Int32))]) (st := []) (c_charAt_3_4 l Z a0 hw a t ck c0 c1 c2 c3 h0 hSio hCpt E C V A hc0 hc1 hc2 hc3) (lenOf pd_5 rfl) (hb hby d_prog_7_method_12_14) (pc' := 17) rfl rfl rfl rfl (by decide) (W := 0) (Nat.le_of_eq rfl) (by decide) (by decide) (by decide) ?_
                        intro T15 X15 e15
                        refine gStoreIN X15 hx (hb hby d_prog_7_method_12_17) (l' := #[.val (.ref a), .val (.int (0 : Int32)), .val (.int (3 : Int32)), .val (.int c3)]) (pc' := 18) rfl rfl ?_
                        refine gLoadIN X15 hx (hb hby d_prog_7_method_12_18) (pc' := 19) rfl rfl ?_
                        refine gIfEqT X15 hx (hb hby d_prog_7_method_12_19) (pc' := 44) (by decide) (by decide) (pn := 22) rfl (fun (c19''' : (0 : Int) = (0 : Int)) => ?_) (fun (c19''' : ¬ (0 : Int) = (0 : Int)) => ?_)
                        · refine gIconst X15 hx (v := (0 : Int32)) (hb hby d_prog_7_method_12_44) (pc' := 45) rfl rfl ?_
                          refine gStoreIN X15 hx (hb hby d_prog_7_method_12_45) (l' := #[.val (.ref a), .val (.int (0 : Int32)), .val (.int (3 : Int32)), .val (.int c3)]) (pc' := 46) rfl rfl ?_
                          refine gIinc X15 hx (v := (1 : Int32)) (hb hby d_prog_7_method_12_46) (l' := #[.val (.ref a), .val (.int (0 : Int32)), .val (.int (4 : Int32)), .val (.int c3)]) (pc' := 49) rfl rfl rfl rfl ?_
                          refine gGoto X15 hx (hb hby d_prog_7_method_12_49) (pc' := 4) (by decide) (by decide) ?_
                          refine gLoadIN X15 hx (hb hby d_prog_7_method_12_4) (pc' := 5) rfl rfl ?_
                          refine gLoadAN X15 hx (hb hby d_prog_7_method_12_5) (pc' := 6) rfl rfl rfl ?_
                          refine gCallVJ X15 hx hZ (y := (⟨"java/lang/String", "length", "()I"⟩ : MethodName)) hown e15 (by rw [hml]; rfl) E (hw _ (List.mem_of_getElem? (i := 27) rfl)) (hw _ (List.mem_of_getElem? (i := 28) rfl)) (hw _ (List.mem_of_getElem? (i := 30) rfl)) (hw _ (List.mem_of_getElem? (i := 29) rfl)) (hw _ (List.mem_of_getElem? (i := 4) rfl)) (hw _ (List.mem_of_getElem? (i := 31) rfl)) (by decide) (argsL := []) (st := [(.int (4 : Int32))]) (c_length_4 l Z a0 hw a t ck c0 c1 c2 c3 h0 hCpt E C V A hc0 hc1 hc2 hc3) (lenOf pd_1 rfl) (hb hby d_prog_7_method_12_6) (pc' := 9) rfl rfl rfl rfl (by decide) (W := 1) (Nat.le_of_eq rfl) (by decide) (by decide) (by decide) ?_
                          intro T16 X16 e16
                          refine gIcmpGe X16 hx (hb hby d_prog_7_method_12_9) (pc' := 52) (by decide) (by decide) (pn := 12) rfl (fun (c9'''' : (4 : Int) ≤ (4 : Int)) => ?_) (fun (c9'''' : (4 : Int) < (4 : Int)) => ?_)
                          · refine gLoadIN X16 hx (hb hby d_prog_7_method_12_52) (pc' := 53) rfl rfl ?_
                            exact gRetN X16 hx hlk hret (by simp) (hb hby d_prog_7_method_12_53) (w := (0 : Int32)) rfl (by decide) (by decide) (just_f (by omega) e16)
                          · exact absurd c9'''' (by decide)
                        · exact absurd c19''' (by decide)
                    · exact absurd c19'' (by decide)
                · refine gIconst X11 hx (v := (1 : Int32)) (hb hby d_prog_7_method_12_40) (pc' := 41) rfl rfl ?_
                  refine gGoto X11 hx (hb hby d_prog_7_method_12_41) (pc' := 45) (by decide) (by decide) ?_
                  refine gStoreIN X11 hx (hb hby d_prog_7_method_12_45) (l' := #[.val (.ref a), .val (.int (1 : Int32)), .val (.int (1 : Int32)), .val (.int c1)]) (pc' := 46) rfl rfl ?_
                  refine gIinc X11 hx (v := (1 : Int32)) (hb hby d_prog_7_method_12_46) (l' := #[.val (.ref a), .val (.int (1 : Int32)), .val (.int (2 : Int32)), .val (.int c1)]) (pc' := 49) rfl rfl rfl rfl ?_
                  refine gGoto X11 hx (hb hby d_prog_7_method_12_49) (pc' := 4) (by decide) (by decide) ?_
                  refine gLoadIN X11 hx (hb hby d_prog_7_method_12_4) (pc' := 5) rfl rfl ?_
                  refine gLoadAN X11 hx (hb hby d_prog_7_method_12_5) (pc' := 6) rfl rfl rfl ?_
                  refine gCallVJ X11 hx hZ (y := (⟨"java/lang/String", "length", "()I"⟩ : MethodName)) hown e11 (by rw [hml]; rfl) E (hw _ (List.mem_of_getElem? (i := 27) rfl)) (hw _ (List.mem_of_getElem? (i := 28) rfl)) (hw _ (List.mem_of_getElem? (i := 30) rfl)) (hw _ (List.mem_of_getElem? (i := 29) rfl)) (hw _ (List.mem_of_getElem? (i := 4) rfl)) (hw _ (List.mem_of_getElem? (i := 31) rfl)) (by decide) (argsL := []) (st := [(.int (2 : Int32))]) (c_length_4 l Z a0 hw a t ck c0 c1 c2 c3 h0 hCpt E C V A hc0 hc1 hc2 hc3) (lenOf pd_1 rfl) (hb hby d_prog_7_method_12_6) (pc' := 9) rfl rfl rfl rfl (by decide) (W := 1) (Nat.le_of_eq rfl) (by decide) (by decide) (by decide) ?_
                  intro T17 X17 e17
                  refine gIcmpGe X17 hx (hb hby d_prog_7_method_12_9) (pc' := 52) (by decide) (by decide) (pn := 12) rfl (fun (c9'' : (4 : Int) ≤ (2 : Int)) => ?_) (fun (c9'' : (2 : Int) < (4 : Int)) => ?_)
                  · exact absurd c9'' (by decide)
                  · refine gLoadAN X17 hx (hb hby d_prog_7_method_12_12) (pc' := 13) rfl rfl rfl ?_
                    refine gLoadIN X17 hx (hb hby d_prog_7_method_12_13) (pc' := 14) rfl rfl ?_
                    refine gCallVJ X17 hx hZ (y := (⟨"java/lang/String", "charAt", "(I)C"⟩ : MethodName)) hown e17 (by rw [hml]; rfl) E (hw _ (List.mem_of_getElem? (i := 52) rfl)) (hw _ (List.mem_of_getElem? (i := 53) rfl)) (hw _ (List.mem_of_getElem? (i := 55) rfl)) (hw _ (List.mem_of_getElem? (i := 54) rfl)) (hw _ (List.mem_of_getElem? (i := 4) rfl)) (hw _ (List.mem_of_getElem? (i := 56) rfl)) (by decide) (argsL := [(.int (2 : Int32))]) (st := []) (c_charAt_2_4 l Z a0 hw a t ck c0 c1 c2 c3 h0 hSio hCpt E C V A hc0 hc1 hc2 hc3) (lenOf pd_5 rfl) (hb hby d_prog_7_method_12_14) (pc' := 17) rfl rfl rfl rfl (by decide) (W := 0) (Nat.le_of_eq rfl) (by decide) (by decide) (by decide) ?_
                    intro T18 X18 e18
                    refine gStoreIN X18 hx (hb hby d_prog_7_method_12_17) (l' := #[.val (.ref a), .val (.int (1 : Int32)), .val (.int (2 : Int32)), .val (.int c2)]) (pc' := 18) rfl rfl ?_
                    refine gLoadIN X18 hx (hb hby d_prog_7_method_12_18) (pc' := 19) rfl rfl ?_
                    refine gIfEqT X18 hx (hb hby d_prog_7_method_12_19) (pc' := 44) (by decide) (by decide) (pn := 22) rfl (fun (c19'' : (1 : Int) = (0 : Int)) => ?_) (fun (c19'' : ¬ (1 : Int) = (0 : Int)) => ?_)
                    · exact absurd c19'' (by decide)
                    · refine gLoadIN X18 hx (hb hby d_prog_7_method_12_22) (pc' := 23) rfl rfl ?_
                      refine gBipush X18 hx (v := (32 : Int32)) (hb hby d_prog_7_method_12_23) (pc' := 25) rfl rfl ?_
                      refine gIcmpGe X18 hx (hb hby d_prog_7_method_12_25) (pc' := 34) (by decide) (by decide) (pn := 28) rfl (fun (c25'' : (32 : Int) ≤ c2.toInt) => ?_) (fun (c25'' : c2.toInt < (32 : Int)) => ?_)
                      · refine gLoadIN X18 hx (hb hby d_prog_7_method_12_34) (pc' := 35) rfl rfl ?_
                        refine gBipush X18 hx (v := (127 : Int32)) (hb hby d_prog_7_method_12_35) (pc' := 37) rfl rfl ?_
                        refine gIcmpEqT X18 hx (hb hby d_prog_7_method_12_37) (pc' := 44) (by decide) (by decide) (pn := 40) rfl (fun (c37'' : c2.toInt = (127 : Int)) => ?_) (fun (c37'' : ¬ c2.toInt = (127 : Int)) => ?_)
                        · refine gIconst X18 hx (v := (0 : Int32)) (hb hby d_prog_7_method_12_44) (pc' := 45) rfl rfl ?_
                          refine gStoreIN X18 hx (hb hby d_prog_7_method_12_45) (l' := #[.val (.ref a), .val (.int (0 : Int32)), .val (.int (2 : Int32)), .val (.int c2)]) (pc' := 46) rfl rfl ?_
                          refine gIinc X18 hx (v := (1 : Int32)) (hb hby d_prog_7_method_12_46) (l' := #[.val (.ref a), .val (.int (0 : Int32)), .val (.int (3 : Int32)), .val (.int c2)]) (pc' := 49) rfl rfl rfl rfl ?_
                          refine gGoto X18 hx (hb hby d_prog_7_method_12_49) (pc' := 4) (by decide) (by decide) ?_
                          refine gLoadIN X18 hx (hb hby d_prog_7_method_12_4) (pc' := 5) rfl rfl ?_
                          refine gLoadAN X18 hx (hb hby d_prog_7_method_12_5) (pc' := 6) rfl rfl rfl ?_
                          refine gCallVJ X18 hx hZ (y := (⟨"java/lang/String", "length", "()I"⟩ : MethodName)) hown e18 (by rw [hml]; rfl) E (hw _ (List.mem_of_getElem? (i := 27) rfl)) (hw _ (List.mem_of_getElem? (i := 28) rfl)) (hw _ (List.mem_of_getElem? (i := 30) rfl)) (hw _ (List.mem_of_getElem? (i := 29) rfl)) (hw _ (List.mem_of_getElem? (i := 4) rfl)) (hw _ (List.mem_of_getElem? (i := 31) rfl)) (by decide) (argsL := []) (st := [(.int (3 : Int32))]) (c_length_4 l Z a0 hw a t ck c0 c1 c2 c3 h0 hCpt E C V A hc0 hc1 hc2 hc3) (lenOf pd_1 rfl) (hb hby d_prog_7_method_12_6) (pc' := 9) rfl rfl rfl rfl (by decide) (W := 1) (Nat.le_of_eq rfl) (by decide) (by decide) (by decide) ?_
                          intro T19 X19 e19
                          refine gIcmpGe X19 hx (hb hby d_prog_7_method_12_9) (pc' := 52) (by decide) (by decide) (pn := 12) rfl (fun (c9''' : (4 : Int) ≤ (3 : Int)) => ?_) (fun (c9''' : (3 : Int) < (4 : Int)) => ?_)
                          · exact absurd c9''' (by decide)
                          · refine gLoadAN X19 hx (hb hby d_prog_7_method_12_12) (pc' := 13) rfl rfl rfl ?_
                            refine gLoadIN X19 hx (hb hby d_prog_7_method_12_13) (pc' := 14) rfl rfl ?_
                            refine gCallVJ X19 hx hZ (y := (⟨"java/lang/String", "charAt", "(I)C"⟩ : MethodName)) hown e19 (by rw [hml]; rfl) E (hw _ (List.mem_of_getElem? (i := 52) rfl)) (hw _ (List.mem_of_getElem? (i := 53) rfl)) (hw _ (List.mem_of_getElem? (i := 55) rfl)) (hw _ (List.mem_of_getElem? (i := 54) rfl)) (hw _ (List.mem_of_getElem? (i := 4) rfl)) (hw _ (List.mem_of_getElem? (i := 56) rfl)) (by decide) (argsL := [(.int (3 : Int32))]) (st := []) (c_charAt_3_4 l Z a0 hw a t ck c0 c1 c2 c3 h0 hSio hCpt E C V A hc0 hc1 hc2 hc3) (lenOf pd_5 rfl) (hb hby d_prog_7_method_12_14) (pc' := 17) rfl rfl rfl rfl (by decide) (W := 0) (Nat.le_of_eq rfl) (by decide) (by decide) (by decide) ?_
                            intro T20 X20 e20
                            refine gStoreIN X20 hx (hb hby d_prog_7_method_12_17) (l' := #[.val (.ref a), .val (.int (0 : Int32)), .val (.int (3 : Int32)), .val (.int c3)]) (pc' := 18) rfl rfl ?_
                            refine gLoadIN X20 hx (hb hby d_prog_7_method_12_18) (pc' := 19) rfl rfl ?_
                            refine gIfEqT X20 hx (hb hby d_prog_7_method_12_19) (pc' := 44) (by decide) (by decide) (pn := 22) rfl (fun (c19''' : (0 : Int) = (0 : Int)) => ?_) (fun (c19''' : ¬ (0 : Int) = (0 : Int)) => ?_)
                            · refine gIconst X20 hx (v := (0 : Int32)) (hb hby d_prog_7_method_12_44) (pc' := 45) rfl rfl ?_
                              refine gStoreIN X20 hx (hb hby d_prog_7_method_12_45) (l' := #[.val (.ref a), .val (.int (0 : Int32)), .val (.int (3 : Int32)), .val (.int c3)]) (pc' := 46) rfl rfl ?_
                              refine gIinc X20 hx (v := (1 : Int32)) (hb hby d_prog_7_method_12_46) (l' := #[.val (.ref a), .val (.int (0 : Int32)), .val (.int (4 : Int32)), .val (.int c3)]) (pc' := 49) rfl rfl rfl rfl ?_
                              refine gGoto X20 hx (hb hby d_prog_7_method_12_49) (pc' := 4) (by decide) (by decide) ?_
                              refine gLoadIN X20 hx (hb hby d_prog_7_method_12_4) (pc' := 5) rfl rfl ?_
                              refine gLoadAN X20 hx (hb hby d_prog_7_method_12_5) (pc' := 6) rfl rfl rfl ?_
                              refine gCallVJ X20 hx hZ (y := (⟨"java/lang/String", "length", "()I"⟩ : MethodName)) hown e20 (by rw [hml]; rfl) E (hw _ (List.mem_of_getElem? (i := 27) rfl)) (hw _ (List.mem_of_getElem? (i := 28) rfl)) (hw _ (List.mem_of_getElem? (i := 30) rfl)) (hw _ (List.mem_of_getElem? (i := 29) rfl)) (hw _ (List.mem_of_getElem? (i := 4) rfl)) (hw _ (List.mem_of_getElem? (i := 31) rfl)) (by decide) (argsL := []) (st := [(.int (4 : Int32))]) (c_length_4 l Z a0 hw a t ck c0 c1 c2 c3 h0 hCpt E C V A hc0 hc1 hc2 hc3) (lenOf pd_1 rfl) (hb hby d_prog_7_method_12_6) (pc' := 9) rfl rfl rfl rfl (by decide) (W := 1) (Nat.le_of_eq rfl) (by decide) (by decide) (by decide) ?_
                              intro T21 X21 e21
                              refine gIcmpGe X21 hx (hb hby d_prog_7_method_12_9) (pc' := 52) (by decide) (by decide) (pn := 12) rfl (fun (c9'''' : (4 : Int) ≤ (4 : Int)) => ?_) (fun (c9'''' : (4 : Int) < (4 : Int)) => ?_)
                              · refine gLoadIN X21 hx (hb hby d_prog_7_method_12_52) (pc' := 53) rfl rfl ?_
                                exact gRetN X21 hx hlk hret (by simp) (hb hby d_prog_7_method_12_53) (w := (0 : Int32)) rfl (by decide) (by decide) (just_f (by omega) e21)
                              · exact absurd c9'''' (by decide)
                            · exact absurd c19''' (by decide)
                        · refine gIconst X18 hx (v := (1 : Int32)) (hb hby d_prog_7_method_12_40) (pc' := 41) rfl rfl ?_
                          refine gGoto X18 hx (hb hby d_prog_7_method_12_41) (pc' := 45) (by decide) (by decide) ?_
                          refine gStoreIN X18 hx (hb hby d_prog_7_method_12_45) (l' := #[.val (.ref a), .val (.int (1 : Int32)), .val (.int (2 : Int32)), .val (.int c2)]) (pc' := 46) rfl rfl ?_
                          refine gIinc X18 hx (v := (1 : Int32)) (hb hby d_prog_7_method_12_46) (l' := #[.val (.ref a), .val (.int (1 : Int32)), .val (.int (3 : Int32)), .val (.int c2)]) (pc' := 49) rfl rfl rfl rfl ?_
                          refine gGoto X18 hx (hb hby d_prog_7_method_12_49) (pc' := 4) (by decide) (by decide) ?_
                          refine gLoadIN X18 hx (hb hby d_prog_7_method_12_4) (pc' := 5) rfl rfl ?_
                          refine gLoadAN X18 hx (hb hby d_prog_7_method_12_5) (pc' := 6) rfl rfl rfl ?_
                          refine gCallVJ X18 hx hZ (y := (⟨"java/lang/String", "length", "()I"⟩ : MethodName)) hown e18 (by rw [hml]; rfl) E (hw _ (List.mem_of_getElem? (i := 27) rfl)) (hw _ (List.mem_of_getElem? (i := 28) rfl)) (hw _ (List.mem_of_getElem? (i := 30) rfl)) (hw _ (List.mem_of_getElem? (i := 29) rfl)) (hw _ (List.mem_of_getElem? (i := 4) rfl)) (hw _ (List.mem_of_getElem? (i := 31) rfl)) (by decide) (argsL := []) (st := [(.int (3 : Int32))]) (c_length_4 l Z a0 hw a t ck c0 c1 c2 c3 h0 hCpt E C V A hc0 hc1 hc2 hc3) (lenOf pd_1 rfl) (hb hby d_prog_7_method_12_6) (pc' := 9) rfl rfl rfl rfl (by decide) (W := 1) (Nat.le_of_eq rfl) (by decide) (by decide) (by decide) ?_
                          intro T22 X22 e22
                          refine gIcmpGe X22 hx (hb hby d_prog_7_method_12_9) (pc' := 52) (by decide) (by decide) (pn := 12) rfl (fun (c9''' : (4 : Int) ≤ (3 : Int)) => ?_) (fun (c9''' : (3 : Int) < (4 : Int)) => ?_)
                          · exact absurd c9''' (by decide)
                          · refine gLoadAN X22 hx (hb hby d_prog_7_method_12_12) (pc' := 13) rfl rfl rfl ?_
                            refine gLoadIN X22 hx (hb hby d_prog_7_method_12_13) (pc' := 14) rfl rfl ?_
                            refine gCallVJ X22 hx hZ (y := (⟨"java/lang/String", "charAt", "(I)C"⟩ : MethodName)) hown e22 (by rw [hml]; rfl) E (hw _ (List.mem_of_getElem? (i := 52) rfl)) (hw _ (List.mem_of_getElem? (i := 53) rfl)) (hw _ (List.mem_of_getElem? (i := 55) rfl)) (hw _ (List.mem_of_getElem? (i := 54) rfl)) (hw _ (List.mem_of_getElem? (i := 4) rfl)) (hw _ (List.mem_of_getElem? (i := 56) rfl)) (by decide) (argsL := [(.int (3 : Int32))]) (st := []) (c_charAt_3_4 l Z a0 hw a t ck c0 c1 c2 c3 h0 hSio hCpt E C V A hc0 hc1 hc2 hc3) (lenOf pd_5 rfl) (hb hby d_prog_7_method_12_14) (pc' := 17) rfl rfl rfl rfl (by decide) (W := 0) (Nat.le_of_eq rfl) (by decide) (by decide) (by decide) ?_
                            intro T23 X23 e23
                            refine gStoreIN X23 hx (hb hby d_prog_7_method_12_17) (l' := #[.val (.ref a), .val (.int (1 : Int32)), .val (.int (3 : Int32)), .val (.int c3)]) (pc' := 18) rfl rfl ?_
                            refine gLoadIN X23 hx (hb hby d_prog_7_method_12_18) (pc' := 19) rfl rfl ?_
                            refine gIfEqT X23 hx (hb hby d_prog_7_method_12_19) (pc' := 44) (by decide) (by decide) (pn := 22) rfl (fun (c19''' : (1 : Int) = (0 : Int)) => ?_) (fun (c19''' : ¬ (1 : Int) = (0 : Int)) => ?_)
                            · exact absurd c19''' (by decide)
                            · refine gLoadIN X23 hx (hb hby d_prog_7_method_12_22) (pc' := 23) rfl rfl ?_
                              refine gBipush X23 hx (v := (32 : Int32)) (hb hby d_prog_7_method_12_23) (pc' := 25) rfl rfl ?_
                              refine gIcmpGe X23 hx (hb hby d_prog_7_method_12_25) (pc' := 34) (by decide) (by decide) (pn := 28) rfl (fun (c25''' : (32 : Int) ≤ c3.toInt) => ?_) (fun (c25''' : c3.toInt < (32 : Int)) => ?_)
                              · refine gLoadIN X23 hx (hb hby d_prog_7_method_12_34) (pc' := 35) rfl rfl ?_
                                refine gBipush X23 hx (v := (127 : Int32)) (hb hby d_prog_7_method_12_35) (pc' := 37) rfl rfl ?_
                                refine gIcmpEqT X23 hx (hb hby d_prog_7_method_12_37) (pc' := 44) (by decide) (by decide) (pn := 40) rfl (fun (c37''' : c3.toInt = (127 : Int)) => ?_) (fun (c37''' : ¬ c3.toInt = (127 : Int)) => ?_)
                                · refine gIconst X23 hx (v := (0 : Int32)) (hb hby d_prog_7_method_12_44) (pc' := 45) rfl rfl ?_
                                  refine gStoreIN X23 hx (hb hby d_prog_7_method_12_45) (l' := #[.val (.ref a), .val (.int (0 : Int32)), .val (.int (3 : Int32)), .val (.int c3)]) (pc' := 46) rfl rfl ?_
                                  refine gIinc X23 hx (v := (1 : Int32)) (hb hby d_prog_7_method_12_46) (l' := #[.val (.ref a), .val (.int (0 : Int32)), .val (.int (4 : Int32)), .val (.int c3)]) (pc' := 49) rfl rfl rfl rfl ?_
                                  refine gGoto X23 hx (hb hby d_prog_7_method_12_49) (pc' := 4) (by decide) (by decide) ?_
                                  refine gLoadIN X23 hx (hb hby d_prog_7_method_12_4) (pc' := 5) rfl rfl ?_
                                  refine gLoadAN X23 hx (hb hby d_prog_7_method_12_5) (pc' := 6) rfl rfl rfl ?_
                                  refine gCallVJ X23 hx hZ (y := (⟨"java/lang/String", "length", "()I"⟩ : MethodName)) hown e23 (by rw [hml]; rfl) E (hw _ (List.mem_of_getElem? (i := 27) rfl)) (hw _ (List.mem_of_getElem? (i := 28) rfl)) (hw _ (List.mem_of_getElem? (i := 30) rfl)) (hw _ (List.mem_of_getElem? (i := 29) rfl)) (hw _ (List.mem_of_getElem? (i := 4) rfl)) (hw _ (List.mem_of_getElem? (i := 31) rfl)) (by decide) (argsL := []) (st := [(.int (4 : Int32))]) (c_length_4 l Z a0 hw a t ck c0 c1 c2 c3 h0 hCpt E C V A hc0 hc1 hc2 hc3) (lenOf pd_1 rfl) (hb hby d_prog_7_method_12_6) (pc' := 9) rfl rfl rfl rfl (by decide) (W := 1) (Nat.le_of_eq rfl) (by decide) (by decide) (by decide) ?_
                                  intro T24 X24 e24
                                  refine gIcmpGe X24 hx (hb hby d_prog_7_method_12_9) (pc' := 52) (by decide) (by decide) (pn := 12) rfl (fun (c9'''' : (4 : Int) ≤ (4 : Int)) => ?_) (fun (c9'''' : (4 : Int) < (4 : Int)) => ?_)
                                  · refine gLoadIN X24 hx (hb hby d_prog_7_method_12_52) (pc' := 53) rfl rfl ?_
                                    exact gRetN X24 hx hlk hret (by simp) (hb hby d_prog_7_method_12_53) (w := (0 : Int32)) rfl (by decide) (by decide) (just_f (by omega) e24)
                                  · exact absurd c9'''' (by decide)
                                · refine gIconst X23 hx (v := (1 : Int32)) (hb hby d_prog_7_method_12_40) (pc' := 41) rfl rfl ?_
                                  refine gGoto X23 hx (hb hby d_prog_7_method_12_41) (pc' := 45) (by decide) (by decide) ?_
                                  refine gStoreIN X23 hx (hb hby d_prog_7_method_12_45) (l' := #[.val (.ref a), .val (.int (1 : Int32)), .val (.int (3 : Int32)), .val (.int c3)]) (pc' := 46) rfl rfl ?_
                                  refine gIinc X23 hx (v := (1 : Int32)) (hb hby d_prog_7_method_12_46) (l' := #[.val (.ref a), .val (.int (1 : Int32)), .val (.int (4 : Int32)), .val (.int c3)]) (pc' := 49) rfl rfl rfl rfl ?_
                                  refine gGoto X23 hx (hb hby d_prog_7_method_12_49) (pc' := 4) (by decide) (by decide) ?_
                                  refine gLoadIN X23 hx (hb hby d_prog_7_method_12_4) (pc' := 5) rfl rfl ?_
                                  refine gLoadAN X23 hx (hb hby d_prog_7_method_12_5) (pc' := 6) rfl rfl rfl ?_
                                  refine gCallVJ X23 hx hZ (y := (⟨"java/lang/String", "length", "()I"⟩ : MethodName)) hown e23 (by rw [hml]; rfl) E (hw _ (List.mem_of_getElem? (i := 27) rfl)) (hw _ (List.mem_of_getElem? (i := 28) rfl)) (hw _ (List.mem_of_getElem? (i := 30) rfl)) (hw _ (List.mem_of_getElem? (i := 29) rfl)) (hw _ (List.mem_of_getElem? (i := 4) rfl)) (hw _ (List.mem_of_getElem? (i := 31) rfl)) (by decide) (argsL := []) (st := [(.int (4 : Int32))]) (c_length_4 l Z a0 hw a t ck c0 c1 c2 c3 h0 hCpt E C V A hc0 hc1 hc2 hc3) (lenOf pd_1 rfl) (hb hby d_prog_7_method_12_6) (pc' := 9) rfl rfl rfl rfl (by decide) (W := 1) (Nat.le_of_eq rfl) (by decide) (by decide) (by decide) ?_
                                  intro T25 X25 e25
                                  refine gIcmpGe X25 hx (hb hby d_prog_7_method_12_9) (pc' := 52) (by decide) (by decide) (pn := 12) rfl (fun (c9'''' : (4 : Int) ≤ (4 : Int)) => ?_) (fun (c9'''' : (4 : Int) < (4 : Int)) => ?_)
                                  · refine gLoadIN X25 hx (hb hby d_prog_7_method_12_52) (pc' := 53) rfl rfl ?_
                                    exact gRetN X25 hx hlk hret (by simp) (hb hby d_prog_7_method_12_53) (w := (1 : Int32)) rfl (by decide) (by decide) (just_t (by omega) e25)
                                  · exact absurd c9'''' (by decide)
                              · refine gLoadIN X23 hx (hb hby d_prog_7_method_12_28) (pc' := 29) rfl rfl ?_
                                refine gBipush X23 hx (v := (9 : Int32)) (hb hby d_prog_7_method_12_29) (pc' := 31) rfl rfl ?_
                                refine gIcmpNeT X23 hx (hb hby d_prog_7_method_12_31) (pc' := 44) (by decide) (by decide) (pn := 34) rfl (fun (c31 : ¬ c3.toInt = (9 : Int)) => ?_) (fun (c31 : c3.toInt = (9 : Int)) => ?_)
                                · refine gIconst X23 hx (v := (0 : Int32)) (hb hby d_prog_7_method_12_44) (pc' := 45) rfl rfl ?_
                                  refine gStoreIN X23 hx (hb hby d_prog_7_method_12_45) (l' := #[.val (.ref a), .val (.int (0 : Int32)), .val (.int (3 : Int32)), .val (.int c3)]) (pc' := 46) rfl rfl ?_
                                  refine gIinc X23 hx (v := (1 : Int32)) (hb hby d_prog_7_method_12_46) (l' := #[.val (.ref a), .val (.int (0 : Int32)), .val (.int (4 : Int32)), .val (.int c3)]) (pc' := 49) rfl rfl rfl rfl ?_
                                  refine gGoto X23 hx (hb hby d_prog_7_method_12_49) (pc' := 4) (by decide) (by decide) ?_
                                  refine gLoadIN X23 hx (hb hby d_prog_7_method_12_4) (pc' := 5) rfl rfl ?_
                                  refine gLoadAN X23 hx (hb hby d_prog_7_method_12_5) (pc' := 6) rfl rfl rfl ?_
                                  refine gCallVJ X23 hx hZ (y := (⟨"java/lang/String", "length", "()I"⟩ : MethodName)) hown e23 (by rw [hml]; rfl) E (hw _ (List.mem_of_getElem? (i := 27) rfl)) (hw _ (List.mem_of_getElem? (i := 28) rfl)) (hw _ (List.mem_of_getElem? (i := 30) rfl)) (hw _ (List.mem_of_getElem? (i := 29) rfl)) (hw _ (List.mem_of_getElem? (i := 4) rfl)) (hw _ (List.mem_of_getElem? (i := 31) rfl)) (by decide) (argsL := []) (st := [(.int (4 : Int32))]) (c_length_4 l Z a0 hw a t ck c0 c1 c2 c3 h0 hCpt E C V A hc0 hc1 hc2 hc3) (lenOf pd_1 rfl) (hb hby d_prog_7_method_12_6) (pc' := 9) rfl rfl rfl rfl (by decide) (W := 1) (Nat.le_of_eq rfl) (by decide) (by decide) (by decide) ?_
                                  intro T26 X26 e26
                                  refine gIcmpGe X26 hx (hb hby d_prog_7_method_12_9) (pc' := 52) (by decide) (by decide) (pn := 12) rfl (fun (c9'''' : (4 : Int) ≤ (4 : Int)) => ?_) (fun (c9'''' : (4 : Int) < (4 : Int)) => ?_)
                                  · refine gLoadIN X26 hx (hb hby d_prog_7_method_12_52) (pc' := 53) rfl rfl ?_
                                    exact gRetN X26 hx hlk hret (by simp) (hb hby d_prog_7_method_12_53) (w := (0 : Int32)) rfl (by decide) (by decide) (just_f (by omega) e26)
                                  · exact absurd c9'''' (by decide)
                                · refine gLoadIN X23 hx (hb hby d_prog_7_method_12_34) (pc' := 35) rfl rfl ?_
                                  refine gBipush X23 hx (v := (127 : Int32)) (hb hby d_prog_7_method_12_35) (pc' := 37) rfl rfl ?_
                                  refine gIcmpEqT X23 hx (hb hby d_prog_7_method_12_37) (pc' := 44) (by decide) (by decide) (pn := 40) rfl (fun (c37''' : c3.toInt = (127 : Int)) => ?_) (fun (c37''' : ¬ c3.toInt = (127 : Int)) => ?_)
                                  · exact absurd c37''' (by omega)
                                  · refine gIconst X23 hx (v := (1 : Int32)) (hb hby d_prog_7_method_12_40) (pc' := 41) rfl rfl ?_
                                    refine gGoto X23 hx (hb hby d_prog_7_method_12_41) (pc' := 45) (by decide) (by decide) ?_
                                    refine gStoreIN X23 hx (hb hby d_prog_7_method_12_45) (l' := #[.val (.ref a), .val (.int (1 : Int32)), .val (.int (3 : Int32)), .val (.int c3)]) (pc' := 46) rfl rfl ?_
                                    refine gIinc X23 hx (v := (1 : Int32)) (hb hby d_prog_7_method_12_46) (l' := #[.val (.ref a), .val (.int (1 : Int32)), .val (.int (4 : Int32)), .val (.int c3)]) (pc' := 49) rfl rfl rfl rfl ?_
                                    refine gGoto X23 hx (hb hby d_prog_7_method_12_49) (pc' := 4) (by decide) (by decide) ?_
                                    refine gLoadIN X23 hx (hb hby d_prog_7_method_12_4) (pc' := 5) rfl rfl ?_
                                    refine gLoadAN X23 hx (hb hby d_prog_7_method_12_5) (pc' := 6) rfl rfl rfl ?_
                                    refine gCallVJ X23 hx hZ (y := (⟨"java/lang/String", "length", "()I"⟩ : MethodName)) hown e23 (by rw [hml]; rfl) E (hw _ (List.mem_of_getElem? (i := 27) rfl)) (hw _ (List.mem_of_getElem? (i := 28) rfl)) (hw _ (List.mem_of_getElem? (i := 30) rfl)) (hw _ (List.mem_of_getElem? (i := 29) rfl)) (hw _ (List.mem_of_getElem? (i := 4) rfl)) (hw _ (List.mem_of_getElem? (i := 31) rfl)) (by decide) (argsL := []) (st := [(.int (4 : Int32))]) (c_length_4 l Z a0 hw a t ck c0 c1 c2 c3 h0 hCpt E C V A hc0 hc1 hc2 hc3) (lenOf pd_1 rfl) (hb hby d_prog_7_method_12_6) (pc' := 9) rfl rfl rfl rfl (by decide) (W := 1) (Nat.le_of_eq rfl) (by decide) (by decide) (by decide) ?_
                                    intro T27 X27 e27
                                    refine gIcmpGe X27 hx (hb hby d_prog_7_method_12_9) (pc' := 52) (by decide) (by decide) (pn := 12) rfl (fun (c9'''' : (4 : Int) ≤ (4 : Int)) => ?_) (fun (c9'''' : (4 : Int) < (4 : Int)) => ?_)
                                    · refine gLoadIN X27 hx (hb hby d_prog_7_method_12_52) (pc' := 53) rfl rfl ?_
                                      exact gRetN X27 hx hlk hret (by simp) (hb hby d_prog_7_method_12_53) (w := (1 : Int32)) rfl (by decide) (by decide) (just_t (by omega) e27)
                                    · exact absurd c9'''' (by decide)
                      · refine gLoadIN X18 hx (hb hby d_prog_7_method_12_28) (pc' := 29) rfl rfl ?_
                        refine gBipush X18 hx (v := (9 : Int32)) (hb hby d_prog_7_method_12_29) (pc' := 31) rfl rfl ?_
                        refine gIcmpNeT X18 hx (hb hby d_prog_7_method_12_31) (pc' := 44) (by decide) (by decide) (pn := 34) rfl (fun (c31 : ¬ c2.toInt = (9 : Int)) => ?_) (fun (c31 : c2.toInt = (9 : Int)) => ?_)
                        · refine gIconst X18 hx (v := (0 : Int32)) (hb hby d_prog_7_method_12_44) (pc' := 45) rfl rfl ?_
                          refine gStoreIN X18 hx (hb hby d_prog_7_method_12_45) (l' := #[.val (.ref a), .val (.int (0 : Int32)), .val (.int (2 : Int32)), .val (.int c2)]) (pc' := 46) rfl rfl ?_
                          refine gIinc X18 hx (v := (1 : Int32)) (hb hby d_prog_7_method_12_46) (l' := #[.val (.ref a), .val (.int (0 : Int32)), .val (.int (3 : Int32)), .val (.int c2)]) (pc' := 49) rfl rfl rfl rfl ?_
                          refine gGoto X18 hx (hb hby d_prog_7_method_12_49) (pc' := 4) (by decide) (by decide) ?_
                          refine gLoadIN X18 hx (hb hby d_prog_7_method_12_4) (pc' := 5) rfl rfl ?_
                          refine gLoadAN X18 hx (hb hby d_prog_7_method_12_5) (pc' := 6) rfl rfl rfl ?_
                          refine gCallVJ X18 hx hZ (y := (⟨"java/lang/String", "length", "()I"⟩ : MethodName)) hown e18 (by rw [hml]; rfl) E (hw _ (List.mem_of_getElem? (i := 27) rfl)) (hw _ (List.mem_of_getElem? (i := 28) rfl)) (hw _ (List.mem_of_getElem? (i := 30) rfl)) (hw _ (List.mem_of_getElem? (i := 29) rfl)) (hw _ (List.mem_of_getElem? (i := 4) rfl)) (hw _ (List.mem_of_getElem? (i := 31) rfl)) (by decide) (argsL := []) (st := [(.int (3 : Int32))]) (c_length_4 l Z a0 hw a t ck c0 c1 c2 c3 h0 hCpt E C V A hc0 hc1 hc2 hc3) (lenOf pd_1 rfl) (hb hby d_prog_7_method_12_6) (pc' := 9) rfl rfl rfl rfl (by decide) (W := 1) (Nat.le_of_eq rfl) (by decide) (by decide) (by decide) ?_
                          intro T28 X28 e28
                          refine gIcmpGe X28 hx (hb hby d_prog_7_method_12_9) (pc' := 52) (by decide) (by decide) (pn := 12) rfl (fun (c9''' : (4 : Int) ≤ (3 : Int)) => ?_) (fun (c9''' : (3 : Int) < (4 : Int)) => ?_)
                          · exact absurd c9''' (by decide)
                          · refine gLoadAN X28 hx (hb hby d_prog_7_method_12_12) (pc' := 13) rfl rfl rfl ?_
                            refine gLoadIN X28 hx (hb hby d_prog_7_method_12_13) (pc' := 14) rfl rfl ?_
                            refine gCallVJ X28 hx hZ (y := (⟨"java/lang/String", "charAt", "(I)C"⟩ : MethodName)) hown e28 (by rw [hml]; rfl) E (hw _ (List.mem_of_getElem? (i := 52) rfl)) (hw _ (List.mem_of_getElem? (i := 53) rfl)) (hw _ (List.mem_of_getElem? (i := 55) rfl)) (hw _ (List.mem_of_getElem? (i := 54) rfl)) (hw _ (List.mem_of_getElem? (i := 4) rfl)) (hw _ (List.mem_of_getElem? (i := 56) rfl)) (by decide) (argsL := [(.int (3 : Int32))]) (st := []) (c_charAt_3_4 l Z a0 hw a t ck c0 c1 c2 c3 h0 hSio hCpt E C V A hc0 hc1 hc2 hc3) (lenOf pd_5 rfl) (hb hby d_prog_7_method_12_14) (pc' := 17) rfl rfl rfl rfl (by decide) (W := 0) (Nat.le_of_eq rfl) (by decide) (by decide) (by decide) ?_
                            intro T29 X29 e29
                            refine gStoreIN X29 hx (hb hby d_prog_7_method_12_17) (l' := #[.val (.ref a), .val (.int (0 : Int32)), .val (.int (3 : Int32)), .val (.int c3)]) (pc' := 18) rfl rfl ?_
                            refine gLoadIN X29 hx (hb hby d_prog_7_method_12_18) (pc' := 19) rfl rfl ?_
                            refine gIfEqT X29 hx (hb hby d_prog_7_method_12_19) (pc' := 44) (by decide) (by decide) (pn := 22) rfl (fun (c19''' : (0 : Int) = (0 : Int)) => ?_) (fun (c19''' : ¬ (0 : Int) = (0 : Int)) => ?_)
                            · refine gIconst X29 hx (v := (0 : Int32)) (hb hby d_prog_7_method_12_44) (pc' := 45) rfl rfl ?_
                              refine gStoreIN X29 hx (hb hby d_prog_7_method_12_45) (l' := #[.val (.ref a), .val (.int (0 : Int32)), .val (.int (3 : Int32)), .val (.int c3)]) (pc' := 46) rfl rfl ?_
                              refine gIinc X29 hx (v := (1 : Int32)) (hb hby d_prog_7_method_12_46) (l' := #[.val (.ref a), .val (.int (0 : Int32)), .val (.int (4 : Int32)), .val (.int c3)]) (pc' := 49) rfl rfl rfl rfl ?_
                              refine gGoto X29 hx (hb hby d_prog_7_method_12_49) (pc' := 4) (by decide) (by decide) ?_
                              refine gLoadIN X29 hx (hb hby d_prog_7_method_12_4) (pc' := 5) rfl rfl ?_
                              refine gLoadAN X29 hx (hb hby d_prog_7_method_12_5) (pc' := 6) rfl rfl rfl ?_
                              refine gCallVJ X29 hx hZ (y := (⟨"java/lang/String", "length", "()I"⟩ : MethodName)) hown e29 (by rw [hml]; rfl) E (hw _ (List.mem_of_getElem? (i := 27) rfl)) (hw _ (List.mem_of_getElem? (i := 28) rfl)) (hw _ (List.mem_of_getElem? (i := 30) rfl)) (hw _ (List.mem_of_getElem? (i := 29) rfl)) (hw _ (List.mem_of_getElem? (i := 4) rfl)) (hw _ (List.mem_of_getElem? (i := 31) rfl)) (by decide) (argsL := []) (st := [(.int (4 : Int32))]) (c_length_4 l Z a0 hw a t ck c0 c1 c2 c3 h0 hCpt E C V A hc0 hc1 hc2 hc3) (lenOf pd_1 rfl) (hb hby d_prog_7_method_12_6) (pc' := 9) rfl rfl rfl rfl (by decide) (W := 1) (Nat.le_of_eq rfl) (by decide) (by decide) (by decide) ?_
                              intro T30 X30 e30
                              refine gIcmpGe X30 hx (hb hby d_prog_7_method_12_9) (pc' := 52) (by decide) (by decide) (pn := 12) rfl (fun (c9'''' : (4 : Int) ≤ (4 : Int)) => ?_) (fun (c9'''' : (4 : Int) < (4 : Int)) => ?_)
                              · refine gLoadIN X30 hx (hb hby d_prog_7_method_12_52) (pc' := 53) rfl rfl ?_
                                exact gRetN X30 hx hlk hret (by simp) (hb hby d_prog_7_method_12_53) (w := (0 : Int32)) rfl (by decide) (by decide) (just_f (by omega) e30)
                              · exact absurd c9'''' (by decide)
                            · exact absurd c19''' (by decide)
                        · refine gLoadIN X18 hx (hb hby d_prog_7_method_12_34) (pc' := 35) rfl rfl ?_
                          refine gBipush X18 hx (v := (127 : Int32)) (hb hby d_prog_7_method_12_35) (pc' := 37) rfl rfl ?_
                          refine gIcmpEqT X18 hx (hb hby d_prog_7_method_12_37) (pc' := 44) (by decide) (by decide) (pn := 40) rfl (fun (c37'' : c2.toInt = (127 : Int)) => ?_) (fun (c37'' : ¬ c2.toInt = (127 : Int)) => ?_)
                          · exact absurd c37'' (by omega)
                          · refine gIconst X18 hx (v := (1 : Int32)) (hb hby d_prog_7_method_12_40) (pc' := 41) rfl rfl ?_
                            refine gGoto X18 hx (hb hby d_prog_7_method_12_41) (pc' := 45) (by decide) (by decide) ?_
                            refine gStoreIN X18 hx (hb hby d_prog_7_method_12_45) (l' := #[.val (.ref a), .val (.int (1 : Int32)), .val (.int (2 : Int32)), .val (.int c2)]) (pc' := 46) rfl rfl ?_
                            refine gIinc X18 hx (v := (1 : Int32)) (hb hby d_prog_7_method_12_46) (l' := #[.val (.ref a), .val (.int (1 : Int32)), .val (.int (3 : Int32)), .val (.int c2)]) (pc' := 49) rfl rfl rfl rfl ?_
                            refine gGoto X18 hx (hb hby d_prog_7_method_12_49) (pc' := 4) (by decide) (by decide) ?_
                            refine gLoadIN X18 hx (hb hby d_prog_7_method_12_4) (pc' := 5) rfl rfl ?_
                            refine gLoadAN X18 hx (hb hby d_prog_7_method_12_5) (pc' := 6) rfl rfl rfl ?_
                            refine gCallVJ X18 hx hZ (y := (⟨"java/lang/String", "length", "()I"⟩ : MethodName)) hown e18 (by rw [hml]; rfl) E (hw _ (List.mem_of_getElem? (i := 27) rfl)) (hw _ (List.mem_of_getElem? (i := 28) rfl)) (hw _ (List.mem_of_getElem? (i := 30) rfl)) (hw _ (List.mem_of_getElem? (i := 29) rfl)) (hw _ (List.mem_of_getElem? (i := 4) rfl)) (hw _ (List.mem_of_getElem? (i := 31) rfl)) (by decide) (argsL := []) (st := [(.int (3 : Int32))]) (c_length_4 l Z a0 hw a t ck c0 c1 c2 c3 h0 hCpt E C V A hc0 hc1 hc2 hc3) (lenOf pd_1 rfl) (hb hby d_prog_7_method_12_6) (pc' := 9) rfl rfl rfl rfl (by decide) (W := 1) (Nat.le_of_eq rfl) (by decide) (by decide) (by decide) ?_
                            intro T31 X31 e31
                            refine gIcmpGe X31 hx (hb hby d_prog_7_method_12_9) (pc' := 52) (by decide) (by decide) (pn := 12) rfl (fun (c9''' : (4 : Int) ≤ (3 : Int)) => ?_) (fun (c9''' : (3 : Int) < (4 : Int)) => ?_)
                            · exact absurd c9''' (by decide)
                            · refine gLoadAN X31 hx (hb hby d_prog_7_method_12_12) (pc' := 13) rfl rfl rfl ?_
                              refine gLoadIN X31 hx (hb hby d_prog_7_method_12_13) (pc' := 14) rfl rfl ?_
                              refine gCallVJ X31 hx hZ (y := (⟨"java/lang/String", "charAt", "(I)C"⟩ : MethodName)) hown e31 (by rw [hml]; rfl) E (hw _ (List.mem_of_getElem? (i := 52) rfl)) (hw _ (List.mem_of_getElem? (i := 53) rfl)) (hw _ (List.mem_of_getElem? (i := 55) rfl)) (hw _ (List.mem_of_getElem? (i := 54) rfl)) (hw _ (List.mem_of_getElem? (i := 4) rfl)) (hw _ (List.mem_of_getElem? (i := 56) rfl)) (by decide) (argsL := [(.int (3 : Int32))]) (st := []) (c_charAt_3_4 l Z a0 hw a t ck c0 c1 c2 c3 h0 hSio hCpt E C V A hc0 hc1 hc2 hc3) (lenOf pd_5 rfl) (hb hby d_prog_7_method_12_14) (pc' := 17) rfl rfl rfl rfl (by decide) (W := 0) (Nat.le_of_eq rfl) (by decide) (by decide) (by decide) ?_
                              intro T32 X32 e32
                              refine gStoreIN X32 hx (hb hby d_prog_7_method_12_17) (l' := #[.val (.ref a), .val (.int (1 : Int32)), .val (.int (3 : Int32)), .val (.int c3)]) (pc' := 18) rfl rfl ?_
                              refine gLoadIN X32 hx (hb hby d_prog_7_method_12_18) (pc' := 19) rfl rfl ?_
                              refine gIfEqT X32 hx (hb hby d_prog_7_method_12_19) (pc' := 44) (by decide) (by decide) (pn := 22) rfl (fun (c19''' : (1 : Int) = (0 : Int)) => ?_) (fun (c19''' : ¬ (1 : Int) = (0 : Int)) => ?_)
                              · exact absurd c19''' (by decide)
                              · refine gLoadIN X32 hx (hb hby d_prog_7_method_12_22) (pc' := 23) rfl rfl ?_
                                refine gBipush X32 hx (v := (32 : Int32)) (hb hby d_prog_7_method_12_23) (pc' := 25) rfl rfl ?_
                                refine gIcmpGe X32 hx (hb hby d_prog_7_method_12_25) (pc' := 34) (by decide) (by decide) (pn := 28) rfl (fun (c25''' : (32 : Int) ≤ c3.toInt) => ?_) (fun (c25''' : c3.toInt < (32 : Int)) => ?_)
                                · refine gLoadIN X32 hx (hb hby d_prog_7_method_12_34) (pc' := 35) rfl rfl ?_
                                  refine gBipush X32 hx (v := (127 : Int32)) (hb hby d_prog_7_method_12_35) (pc' := 37) rfl rfl ?_
                                  refine gIcmpEqT X32 hx (hb hby d_prog_7_method_12_37) (pc' := 44) (by decide) (by decide) (pn := 40) rfl (fun (c37''' : c3.toInt = (127 : Int)) => ?_) (fun (c37''' : ¬ c3.toInt = (127 : Int)) => ?_)
                                  · refine gIconst X32 hx (v := (0 : Int32)) (hb hby d_prog_7_method_12_44) (pc' := 45) rfl rfl ?_
                                    refine gStoreIN X32 hx (hb hby d_prog_7_method_12_45) (l' := #[.val (.ref a), .val (.int (0 : Int32)), .val (.int (3 : Int32)), .val (.int c3)]) (pc' := 46) rfl rfl ?_
                                    refine gIinc X32 hx (v := (1 : Int32)) (hb hby d_prog_7_method_12_46) (l' := #[.val (.ref a), .val (.int (0 : Int32)), .val (.int (4 : Int32)), .val (.int c3)]) (pc' := 49) rfl rfl rfl rfl ?_
                                    refine gGoto X32 hx (hb hby d_prog_7_method_12_49) (pc' := 4) (by decide) (by decide) ?_
                                    refine gLoadIN X32 hx (hb hby d_prog_7_method_12_4) (pc' := 5) rfl rfl ?_
                                    refine gLoadAN X32 hx (hb hby d_prog_7_method_12_5) (pc' := 6) rfl rfl rfl ?_
                                    refine gCallVJ X32 hx hZ (y := (⟨"java/lang/String", "length", "()I"⟩ : MethodName)) hown e32 (by rw [hml]; rfl) E (hw _ (List.mem_of_getElem? (i := 27) rfl)) (hw _ (List.mem_of_getElem? (i := 28) rfl)) (hw _ (List.mem_of_getElem? (i := 30) rfl)) (hw _ (List.mem_of_getElem? (i := 29) rfl)) (hw _ (List.mem_of_getElem? (i := 4) rfl)) (hw _ (List.mem_of_getElem? (i := 31) rfl)) (by decide) (argsL := []) (st := [(.int (4 : Int32))]) (c_length_4 l Z a0 hw a t ck c0 c1 c2 c3 h0 hCpt E C V A hc0 hc1 hc2 hc3) (lenOf pd_1 rfl) (hb hby d_prog_7_method_12_6) (pc' := 9) rfl rfl rfl rfl (by decide) (W := 1) (Nat.le_of_eq rfl) (by decide) (by decide) (by decide) ?_
                                    intro T33 X33 e33
                                    refine gIcmpGe X33 hx (hb hby d_prog_7_method_12_9) (pc' := 52) (by decide) (by decide) (pn := 12) rfl (fun (c9'''' : (4 : Int) ≤ (4 : Int)) => ?_) (fun (c9'''' : (4 : Int) < (4 : Int)) => ?_)
                                    · refine gLoadIN X33 hx (hb hby d_prog_7_method_12_52) (pc' := 53) rfl rfl ?_
                                      exact gRetN X33 hx hlk hret (by simp) (hb hby d_prog_7_method_12_53) (w := (0 : Int32)) rfl (by decide) (by decide) (just_f (by omega) e33)
                                    · exact absurd c9'''' (by decide)
                                  · refine gIconst X32 hx (v := (1 : Int32)) (hb hby d_prog_7_method_12_40) (pc' := 41) rfl rfl ?_
                                    refine gGoto X32 hx (hb hby d_prog_7_method_12_41) (pc' := 45) (by decide) (by decide) ?_
                                    refine gStoreIN X32 hx (hb hby d_prog_7_method_12_45) (l' := #[.val (.ref a), .val (.int (1 : Int32)), .val (.int (3 : Int32)), .val (.int c3)]) (pc' := 46) rfl rfl ?_
                                    refine gIinc X32 hx (v := (1 : Int32)) (hb hby d_prog_7_method_12_46) (l' := #[.val (.ref a), .val (.int (1 : Int32)), .val (.int (4 : Int32)), .val (.int c3)]) (pc' := 49) rfl rfl rfl rfl ?_
                                    refine gGoto X32 hx (hb hby d_prog_7_method_12_49) (pc' := 4) (by decide) (by decide) ?_
                                    refine gLoadIN X32 hx (hb hby d_prog_7_method_12_4) (pc' := 5) rfl rfl ?_
                                    refine gLoadAN X32 hx (hb hby d_prog_7_method_12_5) (pc' := 6) rfl rfl rfl ?_
                                    refine gCallVJ X32 hx hZ (y := (⟨"java/lang/String", "length", "()I"⟩ : MethodName)) hown e32 (by rw [hml]; rfl) E (hw _ (List.mem_of_getElem? (i := 27) rfl)) (hw _ (List.mem_of_getElem? (i := 28) rfl)) (hw _ (List.mem_of_getElem? (i := 30) rfl)) (hw _ (List.mem_of_getElem? (i := 29) rfl)) (hw _ (List.mem_of_getElem? (i := 4) rfl)) (hw _ (List.mem_of_getElem? (i := 31) rfl)) (by decide) (argsL := []) (st := [(.int (4 : Int32))]) (c_length_4 l Z a0 hw a t ck c0 c1 c2 c3 h0 hCpt E C V A hc0 hc1 hc2 hc3) (lenOf pd_1 rfl) (hb hby d_prog_7_method_12_6) (pc' := 9) rfl rfl rfl rfl (by decide) (W := 1) (Nat.le_of_eq rfl) (by decide) (by decide) (by decide) ?_
                                    intro T34 X34 e34
                                    refine gIcmpGe X34 hx (hb hby d_prog_7_method_12_9) (pc' := 52) (by decide) (by decide) (pn := 12) rfl (fun (c9'''' : (4 : Int) ≤ (4 : Int)) => ?_) (fun (c9'''' : (4 : Int) < (4 : Int)) => ?_)
                                    · refine gLoadIN X34 hx (hb hby d_prog_7_method_12_52) (pc' := 53) rfl rfl ?_
                                      exact gRetN X34 hx hlk hret (by simp) (hb hby d_prog_7_method_12_53) (w := (1 : Int32)) rfl (by decide) (by decide) (just_t (by omega) e34)
                                    · exact absurd c9'''' (by decide)
                                · refine gLoadIN X32 hx (hb hby d_prog_7_method_12_28) (pc' := 29) rfl rfl ?_
                                  refine gBipush X32 hx (v := (9 : Int32)) (hb hby d_prog_7_method_12_29) (pc' := 31) rfl rfl ?_
                                  refine gIcmpNeT X32 hx (hb hby d_prog_7_method_12_31) (pc' := 44) (by decide) (by decide) (pn := 34) rfl (fun (c31' : ¬ c3.toInt = (9 : Int)) => ?_) (fun (c31' : c3.toInt = (9 : Int)) => ?_)
                                  · refine gIconst X32 hx (v := (0 : Int32)) (hb hby d_prog_7_method_12_44) (pc' := 45) rfl rfl ?_
                                    refine gStoreIN X32 hx (hb hby d_prog_7_method_12_45) (l' := #[.val (.ref a), .val (.int (0 : Int32)), .val (.int (3 : Int32)), .val (.int c3)]) (pc' := 46) rfl rfl ?_
                                    refine gIinc X32 hx (v := (1 : Int32)) (hb hby d_prog_7_method_12_46) (l' := #[.val (.ref a), .val (.int (0 : Int32)), .val (.int (4 : Int32)), .val (.int c3)]) (pc' := 49) rfl rfl rfl rfl ?_
                                    refine gGoto X32 hx (hb hby d_prog_7_method_12_49) (pc' := 4) (by decide) (by decide) ?_
                                    refine gLoadIN X32 hx (hb hby d_prog_7_method_12_4) (pc' := 5) rfl rfl ?_
                                    refine gLoadAN X32 hx (hb hby d_prog_7_method_12_5) (pc' := 6) rfl rfl rfl ?_
                                    refine gCallVJ X32 hx hZ (y := (⟨"java/lang/String", "length", "()I"⟩ : MethodName)) hown e32 (by rw [hml]; rfl) E (hw _ (List.mem_of_getElem? (i := 27) rfl)) (hw _ (List.mem_of_getElem? (i := 28) rfl)) (hw _ (List.mem_of_getElem? (i := 30) rfl)) (hw _ (List.mem_of_getElem? (i := 29) rfl)) (hw _ (List.mem_of_getElem? (i := 4) rfl)) (hw _ (List.mem_of_getElem? (i := 31) rfl)) (by decide) (argsL := []) (st := [(.int (4 : Int32))]) (c_length_4 l Z a0 hw a t ck c0 c1 c2 c3 h0 hCpt E C V A hc0 hc1 hc2 hc3) (lenOf pd_1 rfl) (hb hby d_prog_7_method_12_6) (pc' := 9) rfl rfl rfl rfl (by decide) (W := 1) (Nat.le_of_eq rfl) (by decide) (by decide) (by decide) ?_
                                    intro T35 X35 e35
                                    refine gIcmpGe X35 hx (hb hby d_prog_7_method_12_9) (pc' := 52) (by decide) (by decide) (pn := 12) rfl (fun (c9'''' : (4 : Int) ≤ (4 : Int)) => ?_) (fun (c9'''' : (4 : Int) < (4 : Int)) => ?_)
                                    · refine gLoadIN X35 hx (hb hby d_prog_7_method_12_52) (pc' := 53) rfl rfl ?_
                                      exact gRetN X35 hx hlk hret (by simp) (hb hby d_prog_7_method_12_53) (w := (0 : Int32)) rfl (by decide) (by decide) (just_f (by omega) e35)
                                    · exact absurd c9'''' (by decide)
                                  · refine gLoadIN X32 hx (hb hby d_prog_7_method_12_34) (pc' := 35) rfl rfl ?_
                                    refine gBipush X32 hx (v := (127 : Int32)) (hb hby d_prog_7_method_12_35) (pc' := 37) rfl rfl ?_
                                    refine gIcmpEqT X32 hx (hb hby d_prog_7_method_12_37) (pc' := 44) (by decide) (by decide) (pn := 40) rfl (fun (c37''' : c3.toInt = (127 : Int)) => ?_) (fun (c37''' : ¬ c3.toInt = (127 : Int)) => ?_)
                                    · exact absurd c37''' (by omega)
                                    · refine gIconst X32 hx (v := (1 : Int32)) (hb hby d_prog_7_method_12_40) (pc' := 41) rfl rfl ?_
                                      refine gGoto X32 hx (hb hby d_prog_7_method_12_41) (pc' := 45) (by decide) (by decide) ?_
                                      refine gStoreIN X32 hx (hb hby d_prog_7_method_12_45) (l' := #[.val (.ref a), .val (.int (1 : Int32)), .val (.int (3 : Int32)), .val (.int c3)]) (pc' := 46) rfl rfl ?_
                                      refine gIinc X32 hx (v := (1 : Int32)) (hb hby d_prog_7_method_12_46) (l' := #[.val (.ref a), .val (.int (1 : Int32)), .val (.int (4 : Int32)), .val (.int c3)]) (pc' := 49) rfl rfl rfl rfl ?_
                                      refine gGoto X32 hx (hb hby d_prog_7_method_12_49) (pc' := 4) (by decide) (by decide) ?_
                                      refine gLoadIN X32 hx (hb hby d_prog_7_method_12_4) (pc' := 5) rfl rfl ?_
                                      refine gLoadAN X32 hx (hb hby d_prog_7_method_12_5) (pc' := 6) rfl rfl rfl ?_
                                      refine gCallVJ X32 hx hZ (y := (⟨"java/lang/String", "length", "()I"⟩ : MethodName)) hown e32 (by rw [hml]; rfl) E (hw _ (List.mem_of_getElem? (i := 27) rfl)) (hw _ (List.mem_of_getElem? (i := 28) rfl)) (hw _ (List.mem_of_getElem? (i := 30) rfl)) (hw _ (List.mem_of_getElem? (i := 29) rfl)) (hw _ (List.mem_of_getElem? (i := 4) rfl)) (hw _ (List.mem_of_getElem? (i := 31) rfl)) (by decide) (argsL := []) (st := [(.int (4 : Int32))]) (c_length_4 l Z a0 hw a t ck c0 c1 c2 c3 h0 hCpt E C V A hc0 hc1 hc2 hc3) (lenOf pd_1 rfl) (hb hby d_prog_7_method_12_6) (pc' := 9) rfl rfl rfl rfl (by decide) (W := 1) (Nat.le_of_eq rfl) (by decide) (by decide) (by decide) ?_
                                      intro T36 X36 e36
                                      refine gIcmpGe X36 hx (hb hby d_prog_7_method_12_9) (pc' := 52) (by decide) (by decide) (pn := 12) rfl (fun (c9'''' : (4 : Int) ≤ (4 : Int)) => ?_) (fun (c9'''' : (4 : Int) < (4 : Int)) => ?_)
                                      · refine gLoadIN X36 hx (hb hby d_prog_7_method_12_52) (pc' := 53) rfl rfl ?_
                                        exact gRetN X36 hx hlk hret (by simp) (hb hby d_prog_7_method_12_53) (w := (1 : Int32)) rfl (by decide) (by decide) (just_t (by omega) e36)
                                      · exact absurd c9'''' (by decide)
              · refine gLoadIN X11 hx (hb hby d_prog_7_method_12_28) (pc' := 29) rfl rfl ?_
                refine gBipush X11 hx (v := (9 : Int32)) (hb hby d_prog_7_method_12_29) (pc' := 31) rfl rfl ?_
                refine gIcmpNeT X11 hx (hb hby d_prog_7_method_12_31) (pc' := 44) (by decide) (by decide) (pn := 34) rfl (fun (c31 : ¬ c1.toInt = (9 : Int)) => ?_) (fun (c31 : c1.toInt = (9 : Int)) => ?_)
                · refine gIconst X11 hx (v := (0 : Int32)) (hb hby d_prog_7_method_12_44) (pc' := 45) rfl rfl ?_
                  refine gStoreIN X11 hx (hb hby d_prog_7_method_12_45) (l' := #[.val (.ref a), .val (.int (0 : Int32)), .val (.int (1 : Int32)), .val (.int c1)]) (pc' := 46) rfl rfl ?_
                  refine gIinc X11 hx (v := (1 : Int32)) (hb hby d_prog_7_method_12_46) (l' := #[.val (.ref a), .val (.int (0 : Int32)), .val (.int (2 : Int32)), .val (.int c1)]) (pc' := 49) rfl rfl rfl rfl ?_
                  refine gGoto X11 hx (hb hby d_prog_7_method_12_49) (pc' := 4) (by decide) (by decide) ?_
                  refine gLoadIN X11 hx (hb hby d_prog_7_method_12_4) (pc' := 5) rfl rfl ?_
                  refine gLoadAN X11 hx (hb hby d_prog_7_method_12_5) (pc' := 6) rfl rfl rfl ?_
                  refine gCallVJ X11 hx hZ (y := (⟨"java/lang/String", "length", "()I"⟩ : MethodName)) hown e11 (by rw [hml]; rfl) E (hw _ (List.mem_of_getElem? (i := 27) rfl)) (hw _ (List.mem_of_getElem? (i := 28) rfl)) (hw _ (List.mem_of_getElem? (i := 30) rfl)) (hw _ (List.mem_of_getElem? (i := 29) rfl)) (hw _ (List.mem_of_getElem? (i := 4) rfl)) (hw _ (List.mem_of_getElem? (i := 31) rfl)) (by decide) (argsL := []) (st := [(.int (2 : Int32))]) (c_length_4 l Z a0 hw a t ck c0 c1 c2 c3 h0 hCpt E C V A hc0 hc1 hc2 hc3) (lenOf pd_1 rfl) (hb hby d_prog_7_method_12_6) (pc' := 9) rfl rfl rfl rfl (by decide) (W := 1) (Nat.le_of_eq rfl) (by decide) (by decide) (by decide) ?_
                  intro T37 X37 e37
                  refine gIcmpGe X37 hx (hb hby d_prog_7_method_12_9) (pc' := 52) (by decide) (by decide) (pn := 12) rfl (fun (c9'' : (4 : Int) ≤ (2 : Int)) => ?_) (fun (c9'' : (2 : Int) < (4 : Int)) => ?_)
                  · exact absurd c9'' (by decide)
                  · refine gLoadAN X37 hx (hb hby d_prog_7_method_12_12) (pc' := 13) rfl rfl rfl ?_
                    refine gLoadIN X37 hx (hb hby d_prog_7_method_12_13) (pc' := 14) rfl rfl ?_
                    refine gCallVJ X37 hx hZ (y := (⟨"java/lang/String", "charAt", "(I)C"⟩ : MethodName)) hown e37 (by rw [hml]; rfl) E (hw _ (List.mem_of_getElem? (i := 52) rfl)) (hw _ (List.mem_of_getElem? (i := 53) rfl)) (hw _ (List.mem_of_getElem? (i := 55) rfl)) (hw _ (List.mem_of_getElem? (i := 54) rfl)) (hw _ (List.mem_of_getElem? (i := 4) rfl)) (hw _ (List.mem_of_getElem? (i := 56) rfl)) (by decide) (argsL := [(.int (2 : Int32))]) (st := []) (c_charAt_2_4 l Z a0 hw a t ck c0 c1 c2 c3 h0 hSio hCpt E C V A hc0 hc1 hc2 hc3) (lenOf pd_5 rfl) (hb hby d_prog_7_method_12_14) (pc' := 17) rfl rfl rfl rfl (by decide) (W := 0) (Nat.le_of_eq rfl) (by decide) (by decide) (by decide) ?_
                    intro T38 X38 e38
                    refine gStoreIN X38 hx (hb hby d_prog_7_method_12_17) (l' := #[.val (.ref a), .val (.int (0 : Int32)), .val (.int (2 : Int32)), .val (.int c2)]) (pc' := 18) rfl rfl ?_
                    refine gLoadIN X38 hx (hb hby d_prog_7_method_12_18) (pc' := 19) rfl rfl ?_
                    refine gIfEqT X38 hx (hb hby d_prog_7_method_12_19) (pc' := 44) (by decide) (by decide) (pn := 22) rfl (fun (c19'' : (0 : Int) = (0 : Int)) => ?_) (fun (c19'' : ¬ (0 : Int) = (0 : Int)) => ?_)
                    · refine gIconst X38 hx (v := (0 : Int32)) (hb hby d_prog_7_method_12_44) (pc' := 45) rfl rfl ?_
                      refine gStoreIN X38 hx (hb hby d_prog_7_method_12_45) (l' := #[.val (.ref a), .val (.int (0 : Int32)), .val (.int (2 : Int32)), .val (.int c2)]) (pc' := 46) rfl rfl ?_
                      refine gIinc X38 hx (v := (1 : Int32)) (hb hby d_prog_7_method_12_46) (l' := #[.val (.ref a), .val (.int (0 : Int32)), .val (.int (3 : Int32)), .val (.int c2)]) (pc' := 49) rfl rfl rfl rfl ?_
                      refine gGoto X38 hx (hb hby d_prog_7_method_12_49) (pc' := 4) (by decide) (by decide) ?_
                      refine gLoadIN X38 hx (hb hby d_prog_7_method_12_4) (pc' := 5) rfl rfl ?_
                      refine gLoadAN X38 hx (hb hby d_prog_7_method_12_5) (pc' := 6) rfl rfl rfl ?_
                      refine gCallVJ X38 hx hZ (y := (⟨"java/lang/String", "length", "()I"⟩ : MethodName)) hown e38 (by rw [hml]; rfl) E (hw _ (List.mem_of_getElem? (i := 27) rfl)) (hw _ (List.mem_of_getElem? (i := 28) rfl)) (hw _ (List.mem_of_getElem? (i := 30) rfl)) (hw _ (List.mem_of_getElem? (i := 29) rfl)) (hw _ (List.mem_of_getElem? (i := 4) rfl)) (hw _ (List.mem_of_getElem? (i := 31) rfl)) (by decide) (argsL := []) (st := [(.int (3 : Int32))]) (c_length_4 l Z a0 hw a t ck c0 c1 c2 c3 h0 hCpt E C V A hc0 hc1 hc2 hc3) (lenOf pd_1 rfl) (hb hby d_prog_7_method_12_6) (pc' := 9) rfl rfl rfl rfl (by decide) (W := 1) (Nat.le_of_eq rfl) (by decide) (by decide) (by decide) ?_
                      intro T39 X39 e39
                      refine gIcmpGe X39 hx (hb hby d_prog_7_method_12_9) (pc' := 52) (by decide) (by decide) (pn := 12) rfl (fun (c9''' : (4 : Int) ≤ (3 : Int)) => ?_) (fun (c9''' : (3 : Int) < (4 : Int)) => ?_)
                      · exact absurd c9''' (by decide)
                      · refine gLoadAN X39 hx (hb hby d_prog_7_method_12_12) (pc' := 13) rfl rfl rfl ?_
                        refine gLoadIN X39 hx (hb hby d_prog_7_method_12_13) (pc' := 14) rfl rfl ?_
                        refine gCallVJ X39 hx hZ (y := (⟨"java/lang/String", "charAt", "(I)C"⟩ : MethodName)) hown e39 (by rw [hml]; rfl) E (hw _ (List.mem_of_getElem? (i := 52) rfl)) (hw _ (List.mem_of_getElem? (i := 53) rfl)) (hw _ (List.mem_of_getElem? (i := 55) rfl)) (hw _ (List.mem_of_getElem? (i := 54) rfl)) (hw _ (List.mem_of_getElem? (i := 4) rfl)) (hw _ (List.mem_of_getElem? (i := 56) rfl)) (by decide) (argsL := [(.int (3 : Int32))]) (st := []) (c_charAt_3_4 l Z a0 hw a t ck c0 c1 c2 c3 h0 hSio hCpt E C V A hc0 hc1 hc2 hc3) (lenOf pd_5 rfl) (hb hby d_prog_7_method_12_14) (pc' := 17) rfl rfl rfl rfl (by decide) (W := 0) (Nat.le_of_eq rfl) (by decide) (by decide) (by decide) ?_
                        intro T40 X40 e40
                        refine gStoreIN X40 hx (hb hby d_prog_7_method_12_17) (l' := #[.val (.ref a), .val (.int (0 : Int32)), .val (.int (3 : Int32)), .val (.int c3)]) (pc' := 18) rfl rfl ?_
                        refine gLoadIN X40 hx (hb hby d_prog_7_method_12_18) (pc' := 19) rfl rfl ?_
                        refine gIfEqT X40 hx (hb hby d_prog_7_method_12_19) (pc' := 44) (by decide) (by decide) (pn := 22) rfl (fun (c19''' : (0 : Int) = (0 : Int)) => ?_) (fun (c19''' : ¬ (0 : Int) = (0 : Int)) => ?_)
                        · refine gIconst X40 hx (v := (0 : Int32)) (hb hby d_prog_7_method_12_44) (pc' := 45) rfl rfl ?_
                          refine gStoreIN X40 hx (hb hby d_prog_7_method_12_45) (l' := #[.val (.ref a), .val (.int (0 : Int32)), .val (.int (3 : Int32)), .val (.int c3)]) (pc' := 46) rfl rfl ?_
                          refine gIinc X40 hx (v := (1 : Int32)) (hb hby d_prog_7_method_12_46) (l' := #[.val (.ref a), .val (.int (0 : Int32)), .val (.int (4 : Int32)), .val (.int c3)]) (pc' := 49) rfl rfl rfl rfl ?_
                          refine gGoto X40 hx (hb hby d_prog_7_method_12_49) (pc' := 4) (by decide) (by decide) ?_
                          refine gLoadIN X40 hx (hb hby d_prog_7_method_12_4) (pc' := 5) rfl rfl ?_
                          refine gLoadAN X40 hx (hb hby d_prog_7_method_12_5) (pc' := 6) rfl rfl rfl ?_
                          refine gCallVJ X40 hx hZ (y := (⟨"java/lang/String", "length", "()I"⟩ : MethodName)) hown e40 (by rw [hml]; rfl) E (hw _ (List.mem_of_getElem? (i := 27) rfl)) (hw _ (List.mem_of_getElem? (i := 28) rfl)) (hw _ (List.mem_of_getElem? (i := 30) rfl)) (hw _ (List.mem_of_getElem? (i := 29) rfl)) (hw _ (List.mem_of_getElem? (i := 4) rfl)) (hw _ (List.mem_of_getElem? (i := 31) rfl)) (by decide) (argsL := []) (st := [(.int (4 : Int32))]) (c_length_4 l Z a0 hw a t ck c0 c1 c2 c3 h0 hCpt E C V A hc0 hc1 hc2 hc3) (lenOf pd_1 rfl) (hb hby d_prog_7_method_12_6) (pc' := 9) rfl rfl rfl rfl (by decide) (W := 1) (Nat.le_of_eq rfl) (by decide) (by decide) (by decide) ?_
                          intro T41 X41 e41
                          refine gIcmpGe X41 hx (hb hby d_prog_7_method_12_9) (pc' := 52) (by decide) (by decide) (pn := 12) rfl (fun (c9'''' : (4 : Int) ≤ (4 : Int)) => ?_) (fun (c9'''' : (4 : Int) < (4 : Int)) => ?_)
                          · refine gLoadIN X41 hx (hb hby d_prog_7_method_12_52) (pc' := 53) rfl rfl ?_
                            exact gRetN X41 hx hlk hret (by simp) (hb hby d_prog_7_method_12_53) (w := (0 : Int32)) rfl (by decide) (by decide) (just_f (by omega) e41)
                          · exact absurd c9'''' (by decide)
                        · exact absurd c19''' (by decide)
                    · exact absurd c19'' (by decide)
                · refine gLoadIN X11 hx (hb hby d_prog_7_method_12_34) (pc' := 35) rfl rfl ?_
                  refine gBipush X11 hx (v := (127 : Int32)) (hb hby d_prog_7_method_12_35) (pc' := 37) rfl rfl ?_
                  refine gIcmpEqT X11 hx (hb hby d_prog_7_method_12_37) (pc' := 44) (by decide) (by decide) (pn := 40) rfl (fun (c37' : c1.toInt = (127 : Int)) => ?_) (fun (c37' : ¬ c1.toInt = (127 : Int)) => ?_)
                  · exact absurd c37' (by omega)
                  · refine gIconst X11 hx (v := (1 : Int32)) (hb hby d_prog_7_method_12_40) (pc' := 41) rfl rfl ?_
                    refine gGoto X11 hx (hb hby d_prog_7_method_12_41) (pc' := 45) (by decide) (by decide) ?_
                    refine gStoreIN X11 hx (hb hby d_prog_7_method_12_45) (l' := #[.val (.ref a), .val (.int (1 : Int32)), .val (.int (1 : Int32)), .val (.int c1)]) (pc' := 46) rfl rfl ?_
                    refine gIinc X11 hx (v := (1 : Int32)) (hb hby d_prog_7_method_12_46) (l' := #[.val (.ref a), .val (.int (1 : Int32)), .val (.int (2 : Int32)), .val (.int c1)]) (pc' := 49) rfl rfl rfl rfl ?_
                    refine gGoto X11 hx (hb hby d_prog_7_method_12_49) (pc' := 4) (by decide) (by decide) ?_
                    refine gLoadIN X11 hx (hb hby d_prog_7_method_12_4) (pc' := 5) rfl rfl ?_
                    refine gLoadAN X11 hx (hb hby d_prog_7_method_12_5) (pc' := 6) rfl rfl rfl ?_
                    refine gCallVJ X11 hx hZ (y := (⟨"java/lang/String", "length", "()I"⟩ : MethodName)) hown e11 (by rw [hml]; rfl) E (hw _ (List.mem_of_getElem? (i := 27) rfl)) (hw _ (List.mem_of_getElem? (i := 28) rfl)) (hw _ (List.mem_of_getElem? (i := 30) rfl)) (hw _ (List.mem_of_getElem? (i := 29) rfl)) (hw _ (List.mem_of_getElem? (i := 4) rfl)) (hw _ (List.mem_of_getElem? (i := 31) rfl)) (by decide) (argsL := []) (st := [(.int (2 : Int32))]) (c_length_4 l Z a0 hw a t ck c0 c1 c2 c3 h0 hCpt E C V A hc0 hc1 hc2 hc3) (lenOf pd_1 rfl) (hb hby d_prog_7_method_12_6) (pc' := 9) rfl rfl rfl rfl (by decide) (W := 1) (Nat.le_of_eq rfl) (by decide) (by decide) (by decide) ?_
                    intro T42 X42 e42
                    refine gIcmpGe X42 hx (hb hby d_prog_7_method_12_9) (pc' := 52) (by decide) (by decide) (pn := 12) rfl (fun (c9'' : (4 : Int) ≤ (2 : Int)) => ?_) (fun (c9'' : (2 : Int) < (4 : Int)) => ?_)
                    · exact absurd c9'' (by decide)
                    · refine gLoadAN X42 hx (hb hby d_prog_7_method_12_12) (pc' := 13) rfl rfl rfl ?_
                      refine gLoadIN X42 hx (hb hby d_prog_7_method_12_13) (pc' := 14) rfl rfl ?_
                      refine gCallVJ X42 hx hZ (y := (⟨"java/lang/String", "charAt", "(I)C"⟩ : MethodName)) hown e42 (by rw [hml]; rfl) E (hw _ (List.mem_of_getElem? (i := 52) rfl)) (hw _ (List.mem_of_getElem? (i := 53) rfl)) (hw _ (List.mem_of_getElem? (i := 55) rfl)) (hw _ (List.mem_of_getElem? (i := 54) rfl)) (hw _ (List.mem_of_getElem? (i := 4) rfl)) (hw _ (List.mem_of_getElem? (i := 56) rfl)) (by decide) (argsL := [(.int (2 : Int32))]) (st := []) (c_charAt_2_4 l Z a0 hw a t ck c0 c1 c2 c3 h0 hSio hCpt E C V A hc0 hc1 hc2 hc3) (lenOf pd_5 rfl) (hb hby d_prog_7_method_12_14) (pc' := 17) rfl rfl rfl rfl (by decide) (W := 0) (Nat.le_of_eq rfl) (by decide) (by decide) (by decide) ?_
                      intro T43 X43 e43
                      refine gStoreIN X43 hx (hb hby d_prog_7_method_12_17) (l' := #[.val (.ref a), .val (.int (1 : Int32)), .val (.int (2 : Int32)), .val (.int c2)]) (pc' := 18) rfl rfl ?_
                      refine gLoadIN X43 hx (hb hby d_prog_7_method_12_18) (pc' := 19) rfl rfl ?_
                      refine gIfEqT X43 hx (hb hby d_prog_7_method_12_19) (pc' := 44) (by decide) (by decide) (pn := 22) rfl (fun (c19'' : (1 : Int) = (0 : Int)) => ?_) (fun (c19'' : ¬ (1 : Int) = (0 : Int)) => ?_)
                      · exact absurd c19'' (by decide)
                      · refine gLoadIN X43 hx (hb hby d_prog_7_method_12_22) (pc' := 23) rfl rfl ?_
                        refine gBipush X43 hx (v := (32 : Int32)) (hb hby d_prog_7_method_12_23) (pc' := 25) rfl rfl ?_
                        refine gIcmpGe X43 hx (hb hby d_prog_7_method_12_25) (pc' := 34) (by decide) (by decide) (pn := 28) rfl (fun (c25'' : (32 : Int) ≤ c2.toInt) => ?_) (fun (c25'' : c2.toInt < (32 : Int)) => ?_)
                        · refine gLoadIN X43 hx (hb hby d_prog_7_method_12_34) (pc' := 35) rfl rfl ?_
                          refine gBipush X43 hx (v := (127 : Int32)) (hb hby d_prog_7_method_12_35) (pc' := 37) rfl rfl ?_
                          refine gIcmpEqT X43 hx (hb hby d_prog_7_method_12_37) (pc' := 44) (by decide) (by decide) (pn := 40) rfl (fun (c37'' : c2.toInt = (127 : Int)) => ?_) (fun (c37'' : ¬ c2.toInt = (127 : Int)) => ?_)
                          · refine gIconst X43 hx (v := (0 : Int32)) (hb hby d_prog_7_method_12_44) (pc' := 45) rfl rfl ?_
                            refine gStoreIN X43 hx (hb hby d_prog_7_method_12_45) (l' := #[.val (.ref a), .val (.int (0 : Int32)), .val (.int (2 : Int32)), .val (.int c2)]) (pc' := 46) rfl rfl ?_
                            refine gIinc X43 hx (v := (1 : Int32)) (hb hby d_prog_7_method_12_46) (l' := #[.val (.ref a), .val (.int (0 : Int32)), .val (.int (3 : Int32)), .val (.int c2)]) (pc' := 49) rfl rfl rfl rfl ?_
                            refine gGoto X43 hx (hb hby d_prog_7_method_12_49) (pc' := 4) (by decide) (by decide) ?_
                            refine gLoadIN X43 hx (hb hby d_prog_7_method_12_4) (pc' := 5) rfl rfl ?_
                            refine gLoadAN X43 hx (hb hby d_prog_7_method_12_5) (pc' := 6) rfl rfl rfl ?_
                            refine gCallVJ X43 hx hZ (y := (⟨"java/lang/String", "length", "()I"⟩ : MethodName)) hown e43 (by rw [hml]; rfl) E (hw _ (List.mem_of_getElem? (i := 27) rfl)) (hw _ (List.mem_of_getElem? (i := 28) rfl)) (hw _ (List.mem_of_getElem? (i := 30) rfl)) (hw _ (List.mem_of_getElem? (i := 29) rfl)) (hw _ (List.mem_of_getElem? (i := 4) rfl)) (hw _ (List.mem_of_getElem? (i := 31) rfl)) (by decide) (argsL := []) (st := [(.int (3 : Int32))]) (c_length_4 l Z a0 hw a t ck c0 c1 c2 c3 h0 hCpt E C V A hc0 hc1 hc2 hc3) (lenOf pd_1 rfl) (hb hby d_prog_7_method_12_6) (pc' := 9) rfl rfl rfl rfl (by decide) (W := 1) (Nat.le_of_eq rfl) (by decide) (by decide) (by decide) ?_
                            intro T44 X44 e44
                            refine gIcmpGe X44 hx (hb hby d_prog_7_method_12_9) (pc' := 52) (by decide) (by decide) (pn := 12) rfl (fun (c9''' : (4 : Int) ≤ (3 : Int)) => ?_) (fun (c9''' : (3 : Int) < (4 : Int)) => ?_)
                            · exact absurd c9''' (by decide)
                            · refine gLoadAN X44 hx (hb hby d_prog_7_method_12_12) (pc' := 13) rfl rfl rfl ?_
                              refine gLoadIN X44 hx (hb hby d_prog_7_method_12_13) (pc' := 14) rfl rfl ?_
                              refine gCallVJ X44 hx hZ (y := (⟨"java/lang/String", "charAt", "(I)C"⟩ : MethodName)) hown e44 (by rw [hml]; rfl) E (hw _ (List.mem_of_getElem? (i := 52) rfl)) (hw _ (List.mem_of_getElem? (i := 53) rfl)) (hw _ (List.mem_of_getElem? (i := 55) rfl)) (hw _ (List.mem_of_getElem? (i := 54) rfl)) (hw _ (List.mem_of_getElem? (i := 4) rfl)) (hw _ (List.mem_of_getElem? (i := 56) rfl)) (by decide) (argsL := [(.int (3 : Int32))]) (st := []) (c_charAt_3_4 l Z a0 hw a t ck c0 c1 c2 c3 h0 hSio hCpt E C V A hc0 hc1 hc2 hc3) (lenOf pd_5 rfl) (hb hby d_prog_7_method_12_14) (pc' := 17) rfl rfl rfl rfl (by decide) (W := 0) (Nat.le_of_eq rfl) (by decide) (by decide) (by decide) ?_
                              intro T45 X45 e45
                              refine gStoreIN X45 hx (hb hby d_prog_7_method_12_17) (l' := #[.val (.ref a), .val (.int (0 : Int32)), .val (.int (3 : Int32)), .val (.int c3)]) (pc' := 18) rfl rfl ?_
                              refine gLoadIN X45 hx (hb hby d_prog_7_method_12_18) (pc' := 19) rfl rfl ?_
                              refine gIfEqT X45 hx (hb hby d_prog_7_method_12_19) (pc' := 44) (by decide) (by decide) (pn := 22) rfl (fun (c19''' : (0 : Int) = (0 : Int)) => ?_) (fun (c19''' : ¬ (0 : Int) = (0 : Int)) => ?_)
                              · refine gIconst X45 hx (v := (0 : Int32)) (hb hby d_prog_7_method_12_44) (pc' := 45) rfl rfl ?_
                                refine gStoreIN X45 hx (hb hby d_prog_7_method_12_45) (l' := #[.val (.ref a), .val (.int (0 : Int32)), .val (.int (3 : Int32)), .val (.int c3)]) (pc' := 46) rfl rfl ?_
                                refine gIinc X45 hx (v := (1 : Int32)) (hb hby d_prog_7_method_12_46) (l' := #[.val (.ref a), .val (.int (0 : Int32)), .val (.int (4 : Int32)), .val (.int c3)]) (pc' := 49) rfl rfl rfl rfl ?_
                                refine gGoto X45 hx (hb hby d_prog_7_method_12_49) (pc' := 4) (by decide) (by decide) ?_
                                refine gLoadIN X45 hx (hb hby d_prog_7_method_12_4) (pc' := 5) rfl rfl ?_
                                refine gLoadAN X45 hx (hb hby d_prog_7_method_12_5) (pc' := 6) rfl rfl rfl ?_
                                refine gCallVJ X45 hx hZ (y := (⟨"java/lang/String", "length", "()I"⟩ : MethodName)) hown e45 (by rw [hml]; rfl) E (hw _ (List.mem_of_getElem? (i := 27) rfl)) (hw _ (List.mem_of_getElem? (i := 28) rfl)) (hw _ (List.mem_of_getElem? (i := 30) rfl)) (hw _ (List.mem_of_getElem? (i := 29) rfl)) (hw _ (List.mem_of_getElem? (i := 4) rfl)) (hw _ (List.mem_of_getElem? (i := 31) rfl)) (by decide) (argsL := []) (st := [(.int (4 : Int32))]) (c_length_4 l Z a0 hw a t ck c0 c1 c2 c3 h0 hCpt E C V A hc0 hc1 hc2 hc3) (lenOf pd_1 rfl) (hb hby d_prog_7_method_12_6) (pc' := 9) rfl rfl rfl rfl (by decide) (W := 1) (Nat.le_of_eq rfl) (by decide) (by decide) (by decide) ?_
                                intro T46 X46 e46
                                refine gIcmpGe X46 hx (hb hby d_prog_7_method_12_9) (pc' := 52) (by decide) (by decide) (pn := 12) rfl (fun (c9'''' : (4 : Int) ≤ (4 : Int)) => ?_) (fun (c9'''' : (4 : Int) < (4 : Int)) => ?_)
                                · refine gLoadIN X46 hx (hb hby d_prog_7_method_12_52) (pc' := 53) rfl rfl ?_
                                  exact gRetN X46 hx hlk hret (by simp) (hb hby d_prog_7_method_12_53) (w := (0 : Int32)) rfl (by decide) (by decide) (just_f (by omega) e46)
                                · exact absurd c9'''' (by decide)
                              · exact absurd c19''' (by decide)
                          · refine gIconst X43 hx (v := (1 : Int32)) (hb hby d_prog_7_method_12_40) (pc' := 41) rfl rfl ?_
                            refine gGoto X43 hx (hb hby d_prog_7_method_12_41) (pc' := 45) (by decide) (by decide) ?_
                            refine gStoreIN X43 hx (hb hby d_prog_7_method_12_45) (l' := #[.val (.ref a), .val (.int (1 : Int32)), .val (.int (2 : Int32)), .val (.int c2)]) (pc' := 46) rfl rfl ?_
                            refine gIinc X43 hx (v := (1 : Int32)) (hb hby d_prog_7_method_12_46) (l' := #[.val (.ref a), .val (.int (1 : Int32)), .val (.int (3 : Int32)), .val (.int c2)]) (pc' := 49) rfl rfl rfl rfl ?_
                            refine gGoto X43 hx (hb hby d_prog_7_method_12_49) (pc' := 4) (by decide) (by decide) ?_
                            refine gLoadIN X43 hx (hb hby d_prog_7_method_12_4) (pc' := 5) rfl rfl ?_
                            refine gLoadAN X43 hx (hb hby d_prog_7_method_12_5) (pc' := 6) rfl rfl rfl ?_
                            refine gCallVJ X43 hx hZ (y := (⟨"java/lang/String", "length", "()I"⟩ : MethodName)) hown e43 (by rw [hml]; rfl) E (hw _ (List.mem_of_getElem? (i := 27) rfl)) (hw _ (List.mem_of_getElem? (i := 28) rfl)) (hw _ (List.mem_of_getElem? (i := 30) rfl)) (hw _ (List.mem_of_getElem? (i := 29) rfl)) (hw _ (List.mem_of_getElem? (i := 4) rfl)) (hw _ (List.mem_of_getElem? (i := 31) rfl)) (by decide) (argsL := []) (st := [(.int (3 : Int32))]) (c_length_4 l Z a0 hw a t ck c0 c1 c2 c3 h0 hCpt E C V A hc0 hc1 hc2 hc3) (lenOf pd_1 rfl) (hb hby d_prog_7_method_12_6) (pc' := 9) rfl rfl rfl rfl (by decide) (W := 1) (Nat.le_of_eq rfl) (by decide) (by decide) (by decide) ?_
                            intro T47 X47 e47
                            refine gIcmpGe X47 hx (hb hby d_prog_7_method_12_9) (pc' := 52) (by decide) (by decide) (pn := 12) rfl (fun (c9''' : (4 : Int) ≤ (3 : Int)) => ?_) (fun (c9''' : (3 : Int) < (4 : Int)) => ?_)
                            · exact absurd c9''' (by decide)
                            · refine gLoadAN X47 hx (hb hby d_prog_7_method_12_12) (pc' := 13) rfl rfl rfl ?_
                              refine gLoadIN X47 hx (hb hby d_prog_7_method_12_13) (pc' := 14) rfl rfl ?_
                              refine gCallVJ X47 hx hZ (y := (⟨"java/lang/String", "charAt", "(I)C"⟩ : MethodName)) hown e47 (by rw [hml]; rfl) E (hw _ (List.mem_of_getElem? (i := 52) rfl)) (hw _ (List.mem_of_getElem? (i := 53) rfl)) (hw _ (List.mem_of_getElem? (i := 55) rfl)) (hw _ (List.mem_of_getElem? (i := 54) rfl)) (hw _ (List.mem_of_getElem? (i := 4) rfl)) (hw _ (List.mem_of_getElem? (i := 56) rfl)) (by decide) (argsL := [(.int (3 : Int32))]) (st := []) (c_charAt_3_4 l Z a0 hw a t ck c0 c1 c2 c3 h0 hSio hCpt E C V A hc0 hc1 hc2 hc3) (lenOf pd_5 rfl) (hb hby d_prog_7_method_12_14) (pc' := 17) rfl rfl rfl rfl (by decide) (W := 0) (Nat.le_of_eq rfl) (by decide) (by decide) (by decide) ?_
                              intro T48 X48 e48
                              refine gStoreIN X48 hx (hb hby d_prog_7_method_12_17) (l' := #[.val (.ref a), .val (.int (1 : Int32)), .val (.int (3 : Int32)), .val (.int c3)]) (pc' := 18) rfl rfl ?_
                              refine gLoadIN X48 hx (hb hby d_prog_7_method_12_18) (pc' := 19) rfl rfl ?_
                              refine gIfEqT X48 hx (hb hby d_prog_7_method_12_19) (pc' := 44) (by decide) (by decide) (pn := 22) rfl (fun (c19''' : (1 : Int) = (0 : Int)) => ?_) (fun (c19''' : ¬ (1 : Int) = (0 : Int)) => ?_)
                              · exact absurd c19''' (by decide)
                              · refine gLoadIN X48 hx (hb hby d_prog_7_method_12_22) (pc' := 23) rfl rfl ?_
                                refine gBipush X48 hx (v := (32 : Int32)) (hb hby d_prog_7_method_12_23) (pc' := 25) rfl rfl ?_
                                refine gIcmpGe X48 hx (hb hby d_prog_7_method_12_25) (pc' := 34) (by decide) (by decide) (pn := 28) rfl (fun (c25''' : (32 : Int) ≤ c3.toInt) => ?_) (fun (c25''' : c3.toInt < (32 : Int)) => ?_)
                                · refine gLoadIN X48 hx (hb hby d_prog_7_method_12_34) (pc' := 35) rfl rfl ?_
                                  refine gBipush X48 hx (v := (127 : Int32)) (hb hby d_prog_7_method_12_35) (pc' := 37) rfl rfl ?_
                                  refine gIcmpEqT X48 hx (hb hby d_prog_7_method_12_37) (pc' := 44) (by decide) (by decide) (pn := 40) rfl (fun (c37''' : c3.toInt = (127 : Int)) => ?_) (fun (c37''' : ¬ c3.toInt = (127 : Int)) => ?_)
                                  · refine gIconst X48 hx (v := (0 : Int32)) (hb hby d_prog_7_method_12_44) (pc' := 45) rfl rfl ?_
                                    refine gStoreIN X48 hx (hb hby d_prog_7_method_12_45) (l' := #[.val (.ref a), .val (.int (0 : Int32)), .val (.int (3 : Int32)), .val (.int c3)]) (pc' := 46) rfl rfl ?_
                                    refine gIinc X48 hx (v := (1 : Int32)) (hb hby d_prog_7_method_12_46) (l' := #[.val (.ref a), .val (.int (0 : Int32)), .val (.int (4 : Int32)), .val (.int c3)]) (pc' := 49) rfl rfl rfl rfl ?_
                                    refine gGoto X48 hx (hb hby d_prog_7_method_12_49) (pc' := 4) (by decide) (by decide) ?_
                                    refine gLoadIN X48 hx (hb hby d_prog_7_method_12_4) (pc' := 5) rfl rfl ?_
                                    refine gLoadAN X48 hx (hb hby d_prog_7_method_12_5) (pc' := 6) rfl rfl rfl ?_
                                    refine gCallVJ X48 hx hZ (y := (⟨"java/lang/String", "length", "()I"⟩ : MethodName)) hown e48 (by rw [hml]; rfl) E (hw _ (List.mem_of_getElem? (i := 27) rfl)) (hw _ (List.mem_of_getElem? (i := 28) rfl)) (hw _ (List.mem_of_getElem? (i := 30) rfl)) (hw _ (List.mem_of_getElem? (i := 29) rfl)) (hw _ (List.mem_of_getElem? (i := 4) rfl)) (hw _ (List.mem_of_getElem? (i := 31) rfl)) (by decide) (argsL := []) (st := [(.int (4 : Int32))]) (c_length_4 l Z a0 hw a t ck c0 c1 c2 c3 h0 hCpt E C V A hc0 hc1 hc2 hc3) (lenOf pd_1 rfl) (hb hby d_prog_7_method_12_6) (pc' := 9) rfl rfl rfl rfl (by decide) (W := 1) (Nat.le_of_eq rfl) (by decide) (by decide) (by decide) ?_
                                    intro T49 X49 e49
                                    refine gIcmpGe X49 hx (hb hby d_prog_7_method_12_9) (pc' := 52) (by decide) (by decide) (pn := 12) rfl (fun (c9'''' : (4 : Int) ≤ (4 : Int)) => ?_) (fun (c9'''' : (4 : Int) < (4 : Int)) => ?_)
                                    · refine gLoadIN X49 hx (hb hby d_prog_7_method_12_52) (pc' := 53) rfl rfl ?_
                                      exact gRetN X49 hx hlk hret (by simp) (hb hby d_prog_7_method_12_53) (w := (0 : Int32)) rfl (by decide) (by decide) (just_f (by omega) e49)
                                    · exact absurd c9'''' (by decide)
                                  · refine gIconst X48 hx (v := (1 : Int32)) (hb hby d_prog_7_method_12_40) (pc' := 41) rfl rfl ?_
                                    refine gGoto X48 hx (hb hby d_prog_7_method_12_41) (pc' := 45) (by decide) (by decide) ?_
                                    refine gStoreIN X48 hx (hb hby d_prog_7_method_12_45) (l' := #[.val (.ref a), .val (.int (1 : Int32)), .val (.int (3 : Int32)), .val (.int c3)]) (pc' := 46) rfl rfl ?_
                                    refine gIinc X48 hx (v := (1 : Int32)) (hb hby d_prog_7_method_12_46) (l' := #[.val (.ref a), .val (.int (1 : Int32)), .val (.int (4 : Int32)), .val (.int c3)]) (pc' := 49) rfl rfl rfl rfl ?_
                                    refine gGoto X48 hx (hb hby d_prog_7_method_12_49) (pc' := 4) (by decide) (by decide) ?_
                                    refine gLoadIN X48 hx (hb hby d_prog_7_method_12_4) (pc' := 5) rfl rfl ?_
                                    refine gLoadAN X48 hx (hb hby d_prog_7_method_12_5) (pc' := 6) rfl rfl rfl ?_
                                    refine gCallVJ X48 hx hZ (y := (⟨"java/lang/String", "length", "()I"⟩ : MethodName)) hown e48 (by rw [hml]; rfl) E (hw _ (List.mem_of_getElem? (i := 27) rfl)) (hw _ (List.mem_of_getElem? (i := 28) rfl)) (hw _ (List.mem_of_getElem? (i := 30) rfl)) (hw _ (List.mem_of_getElem? (i := 29) rfl)) (hw _ (List.mem_of_getElem? (i := 4) rfl)) (hw _ (List.mem_of_getElem? (i := 31) rfl)) (by decide) (argsL := []) (st := [(.int (4 : Int32))]) (c_length_4 l Z a0 hw a t ck c0 c1 c2 c3 h0 hCpt E C V A hc0 hc1 hc2 hc3) (lenOf pd_1 rfl) (hb hby d_prog_7_method_12_6) (pc' := 9) rfl rfl rfl rfl (by decide) (W := 1) (Nat.le_of_eq rfl) (by decide) (by decide) (by decide) ?_
                                    intro T50 X50 e50
                                    refine gIcmpGe X50 hx (hb hby d_prog_7_method_12_9) (pc' := 52) (by decide) (by decide) (pn := 12) rfl (fun (c9'''' : (4 : Int) ≤ (4 : Int)) => ?_) (fun (c9'''' : (4 : Int) < (4 : Int)) => ?_)
                                    · refine gLoadIN X50 hx (hb hby d_prog_7_method_12_52) (pc' := 53) rfl rfl ?_
                                      exact gRetN X50 hx hlk hret (by simp) (hb hby d_prog_7_method_12_53) (w := (1 : Int32)) rfl (by decide) (by decide) (just_t (by omega) e50)
                                    · exact absurd c9'''' (by decide)
                                · refine gLoadIN X48 hx (hb hby d_prog_7_method_12_28) (pc' := 29) rfl rfl ?_
                                  refine gBipush X48 hx (v := (9 : Int32)) (hb hby d_prog_7_method_12_29) (pc' := 31) rfl rfl ?_
                                  refine gIcmpNeT X48 hx (hb hby d_prog_7_method_12_31) (pc' := 44) (by decide) (by decide) (pn := 34) rfl (fun (c31' : ¬ c3.toInt = (9 : Int)) => ?_) (fun (c31' : c3.toInt = (9 : Int)) => ?_)
                                  · refine gIconst X48 hx (v := (0 : Int32)) (hb hby d_prog_7_method_12_44) (pc' := 45) rfl rfl ?_
                                    refine gStoreIN X48 hx (hb hby d_prog_7_method_12_45) (l' := #[.val (.ref a), .val (.int (0 : Int32)), .val (.int (3 : Int32)), .val (.int c3)]) (pc' := 46) rfl rfl ?_
                                    refine gIinc X48 hx (v := (1 : Int32)) (hb hby d_prog_7_method_12_46) (l' := #[.val (.ref a), .val (.int (0 : Int32)), .val (.int (4 : Int32)), .val (.int c3)]) (pc' := 49) rfl rfl rfl rfl ?_
                                    refine gGoto X48 hx (hb hby d_prog_7_method_12_49) (pc' := 4) (by decide) (by decide) ?_
                                    refine gLoadIN X48 hx (hb hby d_prog_7_method_12_4) (pc' := 5) rfl rfl ?_
                                    refine gLoadAN X48 hx (hb hby d_prog_7_method_12_5) (pc' := 6) rfl rfl rfl ?_
                                    refine gCallVJ X48 hx hZ (y := (⟨"java/lang/String", "length", "()I"⟩ : MethodName)) hown e48 (by rw [hml]; rfl) E (hw _ (List.mem_of_getElem? (i := 27) rfl)) (hw _ (List.mem_of_getElem? (i := 28) rfl)) (hw _ (List.mem_of_getElem? (i := 30) rfl)) (hw _ (List.mem_of_getElem? (i := 29) rfl)) (hw _ (List.mem_of_getElem? (i := 4) rfl)) (hw _ (List.mem_of_getElem? (i := 31) rfl)) (by decide) (argsL := []) (st := [(.int (4 : Int32))]) (c_length_4 l Z a0 hw a t ck c0 c1 c2 c3 h0 hCpt E C V A hc0 hc1 hc2 hc3) (lenOf pd_1 rfl) (hb hby d_prog_7_method_12_6) (pc' := 9) rfl rfl rfl rfl (by decide) (W := 1) (Nat.le_of_eq rfl) (by decide) (by decide) (by decide) ?_
                                    intro T51 X51 e51
                                    refine gIcmpGe X51 hx (hb hby d_prog_7_method_12_9) (pc' := 52) (by decide) (by decide) (pn := 12) rfl (fun (c9'''' : (4 : Int) ≤ (4 : Int)) => ?_) (fun (c9'''' : (4 : Int) < (4 : Int)) => ?_)
                                    · refine gLoadIN X51 hx (hb hby d_prog_7_method_12_52) (pc' := 53) rfl rfl ?_
                                      exact gRetN X51 hx hlk hret (by simp) (hb hby d_prog_7_method_12_53) (w := (0 : Int32)) rfl (by decide) (by decide) (just_f (by omega) e51)
                                    · exact absurd c9'''' (by decide)
                                  · refine gLoadIN X48 hx (hb hby d_prog_7_method_12_34) (pc' := 35) rfl rfl ?_
                                    refine gBipush X48 hx (v := (127 : Int32)) (hb hby d_prog_7_method_12_35) (pc' := 37) rfl rfl ?_
                                    refine gIcmpEqT X48 hx (hb hby d_prog_7_method_12_37) (pc' := 44) (by decide) (by decide) (pn := 40) rfl (fun (c37''' : c3.toInt = (127 : Int)) => ?_) (fun (c37''' : ¬ c3.toInt = (127 : Int)) => ?_)
                                    · exact absurd c37''' (by omega)
                                    · refine gIconst X48 hx (v := (1 : Int32)) (hb hby d_prog_7_method_12_40) (pc' := 41) rfl rfl ?_
                                      refine gGoto X48 hx (hb hby d_prog_7_method_12_41) (pc' := 45) (by decide) (by decide) ?_
                                      refine gStoreIN X48 hx (hb hby d_prog_7_method_12_45) (l' := #[.val (.ref a), .val (.int (1 : Int32)), .val (.int (3 : Int32)), .val (.int c3)]) (pc' := 46) rfl rfl ?_
                                      refine gIinc X48 hx (v := (1 : Int32)) (hb hby d_prog_7_method_12_46) (l' := #[.val (.ref a), .val (.int (1 : Int32)), .val (.int (4 : Int32)), .val (.int c3)]) (pc' := 49) rfl rfl rfl rfl ?_
                                      refine gGoto X48 hx (hb hby d_prog_7_method_12_49) (pc' := 4) (by decide) (by decide) ?_
                                      refine gLoadIN X48 hx (hb hby d_prog_7_method_12_4) (pc' := 5) rfl rfl ?_
                                      refine gLoadAN X48 hx (hb hby d_prog_7_method_12_5) (pc' := 6) rfl rfl rfl ?_
                                      refine gCallVJ X48 hx hZ (y := (⟨"java/lang/String", "length", "()I"⟩ : MethodName)) hown e48 (by rw [hml]; rfl) E (hw _ (List.mem_of_getElem? (i := 27) rfl)) (hw _ (List.mem_of_getElem? (i := 28) rfl)) (hw _ (List.mem_of_getElem? (i := 30) rfl)) (hw _ (List.mem_of_getElem? (i := 29) rfl)) (hw _ (List.mem_of_getElem? (i := 4) rfl)) (hw _ (List.mem_of_getElem? (i := 31) rfl)) (by decide) (argsL := []) (st := [(.int (4 : Int32))]) (c_length_4 l Z a0 hw a t ck c0 c1 c2 c3 h0 hCpt E C V A hc0 hc1 hc2 hc3) (lenOf pd_1 rfl) (hb hby d_prog_7_method_12_6) (pc' := 9) rfl rfl rfl rfl (by decide) (W := 1) (Nat.le_of_eq rfl) (by decide) (by decide) (by decide) ?_
                                      intro T52 X52 e52
                                      refine gIcmpGe X52 hx (hb hby d_prog_7_method_12_9) (pc' := 52) (by decide) (by decide) (pn := 12) rfl (fun (c9'''' : (4 : Int) ≤ (4 : Int)) => ?_) (fun (c9'''' : (4 : Int) < (4 : Int)) => ?_)
                                      · refine gLoadIN X52 hx (hb hby d_prog_7_method_12_52) (pc' := 53) rfl rfl ?_
                                        exact gRetN X52 hx hlk hret (by simp) (hb hby d_prog_7_method_12_53) (w := (1 : Int32)) rfl (by decide) (by decide) (just_t (by omega) e52)
                                      · exact absurd c9'''' (by decide)
                        · refine gLoadIN X43 hx (hb hby d_prog_7_method_12_28) (pc' := 29) rfl rfl ?_
                          refine gBipush X43 hx (v := (9 : Int32)) (hb hby d_prog_7_method_12_29) (pc' := 31) rfl rfl ?_
                          refine gIcmpNeT X43 hx (hb hby d_prog_7_method_12_31) (pc' := 44) (by decide) (by decide) (pn := 34) rfl (fun (c31' : ¬ c2.toInt = (9 : Int)) => ?_) (fun (c31' : c2.toInt = (9 : Int)) => ?_)
                          · refine gIconst X43 hx (v := (0 : Int32)) (hb hby d_prog_7_method_12_44) (pc' := 45) rfl rfl ?_
                            refine gStoreIN X43 hx (hb hby d_prog_7_method_12_45) (l' := #[.val (.ref a), .val (.int (0 : Int32)), .val (.int (2 : Int32)), .val (.int c2)]) (pc' := 46) rfl rfl ?_
                            refine gIinc X43 hx (v := (1 : Int32)) (hb hby d_prog_7_method_12_46) (l' := #[.val (.ref a), .val (.int (0 : Int32)), .val (.int (3 : Int32)), .val (.int c2)]) (pc' := 49) rfl rfl rfl rfl ?_
                            refine gGoto X43 hx (hb hby d_prog_7_method_12_49) (pc' := 4) (by decide) (by decide) ?_
                            refine gLoadIN X43 hx (hb hby d_prog_7_method_12_4) (pc' := 5) rfl rfl ?_
                            refine gLoadAN X43 hx (hb hby d_prog_7_method_12_5) (pc' := 6) rfl rfl rfl ?_
                            refine gCallVJ X43 hx hZ (y := (⟨"java/lang/String", "length", "()I"⟩ : MethodName)) hown e43 (by rw [hml]; rfl) E (hw _ (List.mem_of_getElem? (i := 27) rfl)) (hw _ (List.mem_of_getElem? (i := 28) rfl)) (hw _ (List.mem_of_getElem? (i := 30) rfl)) (hw _ (List.mem_of_getElem? (i := 29) rfl)) (hw _ (List.mem_of_getElem? (i := 4) rfl)) (hw _ (List.mem_of_getElem? (i := 31) rfl)) (by decide) (argsL := []) (st := [(.int (3 : Int32))]) (c_length_4 l Z a0 hw a t ck c0 c1 c2 c3 h0 hCpt E C V A hc0 hc1 hc2 hc3) (lenOf pd_1 rfl) (hb hby d_prog_7_method_12_6) (pc' := 9) rfl rfl rfl rfl (by decide) (W := 1) (Nat.le_of_eq rfl) (by decide) (by decide) (by decide) ?_
                            intro T53 X53 e53
                            refine gIcmpGe X53 hx (hb hby d_prog_7_method_12_9) (pc' := 52) (by decide) (by decide) (pn := 12) rfl (fun (c9''' : (4 : Int) ≤ (3 : Int)) => ?_) (fun (c9''' : (3 : Int) < (4 : Int)) => ?_)
                            · exact absurd c9''' (by decide)
                            · refine gLoadAN X53 hx (hb hby d_prog_7_method_12_12) (pc' := 13) rfl rfl rfl ?_
                              refine gLoadIN X53 hx (hb hby d_prog_7_method_12_13) (pc' := 14) rfl rfl ?_
                              refine gCallVJ X53 hx hZ (y := (⟨"java/lang/String", "charAt", "(I)C"⟩ : MethodName)) hown e53 (by rw [hml]; rfl) E (hw _ (List.mem_of_getElem? (i := 52) rfl)) (hw _ (List.mem_of_getElem? (i := 53) rfl)) (hw _ (List.mem_of_getElem? (i := 55) rfl)) (hw _ (List.mem_of_getElem? (i := 54) rfl)) (hw _ (List.mem_of_getElem? (i := 4) rfl)) (hw _ (List.mem_of_getElem? (i := 56) rfl)) (by decide) (argsL := [(.int (3 : Int32))]) (st := []) (c_charAt_3_4 l Z a0 hw a t ck c0 c1 c2 c3 h0 hSio hCpt E C V A hc0 hc1 hc2 hc3) (lenOf pd_5 rfl) (hb hby d_prog_7_method_12_14) (pc' := 17) rfl rfl rfl rfl (by decide) (W := 0) (Nat.le_of_eq rfl) (by decide) (by decide) (by decide) ?_
                              intro T54 X54 e54
                              refine gStoreIN X54 hx (hb hby d_prog_7_method_12_17) (l' := #[.val (.ref a), .val (.int (0 : Int32)), .val (.int (3 : Int32)), .val (.int c3)]) (pc' := 18) rfl rfl ?_
                              refine gLoadIN X54 hx (hb hby d_prog_7_method_12_18) (pc' := 19) rfl rfl ?_
                              refine gIfEqT X54 hx (hb hby d_prog_7_method_12_19) (pc' := 44) (by decide) (by decide) (pn := 22) rfl (fun (c19''' : (0 : Int) = (0 : Int)) => ?_) (fun (c19''' : ¬ (0 : Int) = (0 : Int)) => ?_)
                              · refine gIconst X54 hx (v := (0 : Int32)) (hb hby d_prog_7_method_12_44) (pc' := 45) rfl rfl ?_
                                refine gStoreIN X54 hx (hb hby d_prog_7_method_12_45) (l' := #[.val (.ref a), .val (.int (0 : Int32)), .val (.int (3 : Int32)), .val (.int c3)]) (pc' := 46) rfl rfl ?_
                                refine gIinc X54 hx (v := (1 : Int32)) (hb hby d_prog_7_method_12_46) (l' := #[.val (.ref a), .val (.int (0 : Int32)), .val (.int (4 : Int32)), .val (.int c3)]) (pc' := 49) rfl rfl rfl rfl ?_
                                refine gGoto X54 hx (hb hby d_prog_7_method_12_49) (pc' := 4) (by decide) (by decide) ?_
                                refine gLoadIN X54 hx (hb hby d_prog_7_method_12_4) (pc' := 5) rfl rfl ?_
                                refine gLoadAN X54 hx (hb hby d_prog_7_method_12_5) (pc' := 6) rfl rfl rfl ?_
                                refine gCallVJ X54 hx hZ (y := (⟨"java/lang/String", "length", "()I"⟩ : MethodName)) hown e54 (by rw [hml]; rfl) E (hw _ (List.mem_of_getElem? (i := 27) rfl)) (hw _ (List.mem_of_getElem? (i := 28) rfl)) (hw _ (List.mem_of_getElem? (i := 30) rfl)) (hw _ (List.mem_of_getElem? (i := 29) rfl)) (hw _ (List.mem_of_getElem? (i := 4) rfl)) (hw _ (List.mem_of_getElem? (i := 31) rfl)) (by decide) (argsL := []) (st := [(.int (4 : Int32))]) (c_length_4 l Z a0 hw a t ck c0 c1 c2 c3 h0 hCpt E C V A hc0 hc1 hc2 hc3) (lenOf pd_1 rfl) (hb hby d_prog_7_method_12_6) (pc' := 9) rfl rfl rfl rfl (by decide) (W := 1) (Nat.le_of_eq rfl) (by decide) (by decide) (by decide) ?_
                                intro T55 X55 e55
                                refine gIcmpGe X55 hx (hb hby d_prog_7_method_12_9) (pc' := 52) (by decide) (by decide) (pn := 12) rfl (fun (c9'''' : (4 : Int) ≤ (4 : Int)) => ?_) (fun (c9'''' : (4 : Int) < (4 : Int)) => ?_)
                                · refine gLoadIN X55 hx (hb hby d_prog_7_method_12_52) (pc' := 53) rfl rfl ?_
                                  exact gRetN X55 hx hlk hret (by simp) (hb hby d_prog_7_method_12_53) (w := (0 : Int32)) rfl (by decide) (by decide) (just_f (by omega) e55)
                                · exact absurd c9'''' (by decide)
                              · exact absurd c19''' (by decide)
                          · refine gLoadIN X43 hx (hb hby d_prog_7_method_12_34) (pc' := 35) rfl rfl ?_
                            refine gBipush X43 hx (v := (127 : Int32)) (hb hby d_prog_7_method_12_35) (pc' := 37) rfl rfl ?_
                            refine gIcmpEqT X43 hx (hb hby d_prog_7_method_12_37) (pc' := 44) (by decide) (by decide) (pn := 40) rfl (fun (c37'' : c2.toInt = (127 : Int)) => ?_) (fun (c37'' : ¬ c2.toInt = (127 : Int)) => ?_)
                            · exact absurd c37'' (by omega)
                            · refine gIconst X43 hx (v := (1 : Int32)) (hb hby d_prog_7_method_12_40) (pc' := 41) rfl rfl ?_
                              refine gGoto X43 hx (hb hby d_prog_7_method_12_41) (pc' := 45) (by decide) (by decide) ?_
                              refine gStoreIN X43 hx (hb hby d_prog_7_method_12_45) (l' := #[.val (.ref a), .val (.int (1 : Int32)), .val (.int (2 : Int32)), .val (.int c2)]) (pc' := 46) rfl rfl ?_
                              refine gIinc X43 hx (v := (1 : Int32)) (hb hby d_prog_7_method_12_46) (l' := #[.val (.ref a), .val (.int (1 : Int32)), .val (.int (3 : Int32)), .val (.int c2)]) (pc' := 49) rfl rfl rfl rfl ?_
                              refine gGoto X43 hx (hb hby d_prog_7_method_12_49) (pc' := 4) (by decide) (by decide) ?_
                              refine gLoadIN X43 hx (hb hby d_prog_7_method_12_4) (pc' := 5) rfl rfl ?_
                              refine gLoadAN X43 hx (hb hby d_prog_7_method_12_5) (pc' := 6) rfl rfl rfl ?_
                              refine gCallVJ X43 hx hZ (y := (⟨"java/lang/String", "length", "()I"⟩ : MethodName)) hown e43 (by rw [hml]; rfl) E (hw _ (List.mem_of_getElem? (i := 27) rfl)) (hw _ (List.mem_of_getElem? (i := 28) rfl)) (hw _ (List.mem_of_getElem? (i := 30) rfl)) (hw _ (List.mem_of_getElem? (i := 29) rfl)) (hw _ (List.mem_of_getElem? (i := 4) rfl)) (hw _ (List.mem_of_getElem? (i := 31) rfl)) (by decide) (argsL := []) (st := [(.int (3 : Int32))]) (c_length_4 l Z a0 hw a t ck c0 c1 c2 c3 h0 hCpt E C V A hc0 hc1 hc2 hc3) (lenOf pd_1 rfl) (hb hby d_prog_7_method_12_6) (pc' := 9) rfl rfl rfl rfl (by decide) (W := 1) (Nat.le_of_eq rfl) (by decide) (by decide) (by decide) ?_
                              intro T56 X56 e56
                              refine gIcmpGe X56 hx (hb hby d_prog_7_method_12_9) (pc' := 52) (by decide) (by decide) (pn := 12) rfl (fun (c9''' : (4 : Int) ≤ (3 : Int)) => ?_) (fun (c9''' : (3 : Int) < (4 : Int)) => ?_)
                              · exact absurd c9''' (by decide)
                              · refine gLoadAN X56 hx (hb hby d_prog_7_method_12_12) (pc' := 13) rfl rfl rfl ?_
                                refine gLoadIN X56 hx (hb hby d_prog_7_method_12_13) (pc' := 14) rfl rfl ?_
                                refine gCallVJ X56 hx hZ (y := (⟨"java/lang/String", "charAt", "(I)C"⟩ : MethodName)) hown e56 (by rw [hml]; rfl) E (hw _ (List.mem_of_getElem? (i := 52) rfl)) (hw _ (List.mem_of_getElem? (i := 53) rfl)) (hw _ (List.mem_of_getElem? (i := 55) rfl)) (hw _ (List.mem_of_getElem? (i := 54) rfl)) (hw _ (List.mem_of_getElem? (i := 4) rfl)) (hw _ (List.mem_of_getElem? (i := 56) rfl)) (by decide) (argsL := [(.int (3 : Int32))]) (st := []) (c_charAt_3_4 l Z a0 hw a t ck c0 c1 c2 c3 h0 hSio hCpt E C V A hc0 hc1 hc2 hc3) (lenOf pd_5 rfl) (hb hby d_prog_7_method_12_14) (pc' := 17) rfl rfl rfl rfl (by decide) (W := 0) (Nat.le_of_eq rfl) (by decide) (by decide) (by decide) ?_
                                intro T57 X57 e57
                                refine gStoreIN X57 hx (hb hby d_prog_7_method_12_17) (l' := #[.val (.ref a), .val (.int (1 : Int32)), .val (.int (3 : Int32)), .val (.int c3)]) (pc' := 18) rfl rfl ?_
                                refine gLoadIN X57 hx (hb hby d_prog_7_method_12_18) (pc' := 19) rfl rfl ?_
                                refine gIfEqT X57 hx (hb hby d_prog_7_method_12_19) (pc' := 44) (by decide) (by decide) (pn := 22) rfl (fun (c19''' : (1 : Int) = (0 : Int)) => ?_) (fun (c19''' : ¬ (1 : Int) = (0 : Int)) => ?_)
                                · exact absurd c19''' (by decide)
                                · refine gLoadIN X57 hx (hb hby d_prog_7_method_12_22) (pc' := 23) rfl rfl ?_
                                  refine gBipush X57 hx (v := (32 : Int32)) (hb hby d_prog_7_method_12_23) (pc' := 25) rfl rfl ?_
                                  refine gIcmpGe X57 hx (hb hby d_prog_7_method_12_25) (pc' := 34) (by decide) (by decide) (pn := 28) rfl (fun (c25''' : (32 : Int) ≤ c3.toInt) => ?_) (fun (c25''' : c3.toInt < (32 : Int)) => ?_)
                                  · refine gLoadIN X57 hx (hb hby d_prog_7_method_12_34) (pc' := 35) rfl rfl ?_
                                    refine gBipush X57 hx (v := (127 : Int32)) (hb hby d_prog_7_method_12_35) (pc' := 37) rfl rfl ?_
                                    refine gIcmpEqT X57 hx (hb hby d_prog_7_method_12_37) (pc' := 44) (by decide) (by decide) (pn := 40) rfl (fun (c37''' : c3.toInt = (127 : Int)) => ?_) (fun (c37''' : ¬ c3.toInt = (127 : Int)) => ?_)
                                    · refine gIconst X57 hx (v := (0 : Int32)) (hb hby d_prog_7_method_12_44) (pc' := 45) rfl rfl ?_
                                      refine gStoreIN X57 hx (hb hby d_prog_7_method_12_45) (l' := #[.val (.ref a), .val (.int (0 : Int32)), .val (.int (3 : Int32)), .val (.int c3)]) (pc' := 46) rfl rfl ?_
                                      refine gIinc X57 hx (v := (1 : Int32)) (hb hby d_prog_7_method_12_46) (l' := #[.val (.ref a), .val (.int (0 : Int32)), .val (.int (4 : Int32)), .val (.int c3)]) (pc' := 49) rfl rfl rfl rfl ?_
                                      refine gGoto X57 hx (hb hby d_prog_7_method_12_49) (pc' := 4) (by decide) (by decide) ?_
                                      refine gLoadIN X57 hx (hb hby d_prog_7_method_12_4) (pc' := 5) rfl rfl ?_
                                      refine gLoadAN X57 hx (hb hby d_prog_7_method_12_5) (pc' := 6) rfl rfl rfl ?_
                                      refine gCallVJ X57 hx hZ (y := (⟨"java/lang/String", "length", "()I"⟩ : MethodName)) hown e57 (by rw [hml]; rfl) E (hw _ (List.mem_of_getElem? (i := 27) rfl)) (hw _ (List.mem_of_getElem? (i := 28) rfl)) (hw _ (List.mem_of_getElem? (i := 30) rfl)) (hw _ (List.mem_of_getElem? (i := 29) rfl)) (hw _ (List.mem_of_getElem? (i := 4) rfl)) (hw _ (List.mem_of_getElem? (i := 31) rfl)) (by decide) (argsL := []) (st := [(.int (4 : Int32))]) (c_length_4 l Z a0 hw a t ck c0 c1 c2 c3 h0 hCpt E C V A hc0 hc1 hc2 hc3) (lenOf pd_1 rfl) (hb hby d_prog_7_method_12_6) (pc' := 9) rfl rfl rfl rfl (by decide) (W := 1) (Nat.le_of_eq rfl) (by decide) (by decide) (by decide) ?_
                                      intro T58 X58 e58
                                      refine gIcmpGe X58 hx (hb hby d_prog_7_method_12_9) (pc' := 52) (by decide) (by decide) (pn := 12) rfl (fun (c9'''' : (4 : Int) ≤ (4 : Int)) => ?_) (fun (c9'''' : (4 : Int) < (4 : Int)) => ?_)
                                      · refine gLoadIN X58 hx (hb hby d_prog_7_method_12_52) (pc' := 53) rfl rfl ?_
                                        exact gRetN X58 hx hlk hret (by simp) (hb hby d_prog_7_method_12_53) (w := (0 : Int32)) rfl (by decide) (by decide) (just_f (by omega) e58)
                                      · exact absurd c9'''' (by decide)
                                    · refine gIconst X57 hx (v := (1 : Int32)) (hb hby d_prog_7_method_12_40) (pc' := 41) rfl rfl ?_
                                      refine gGoto X57 hx (hb hby d_prog_7_method_12_41) (pc' := 45) (by decide) (by decide) ?_
                                      refine gStoreIN X57 hx (hb hby d_prog_7_method_12_45) (l' := #[.val (.ref a), .val (.int (1 : Int32)), .val (.int (3 : Int32)), .val (.int c3)]) (pc' := 46) rfl rfl ?_
                                      refine gIinc X57 hx (v := (1 : Int32)) (hb hby d_prog_7_method_12_46) (l' := #[.val (.ref a), .val (.int (1 : Int32)), .val (.int (4 : Int32)), .val (.int c3)]) (pc' := 49) rfl rfl rfl rfl ?_
                                      refine gGoto X57 hx (hb hby d_prog_7_method_12_49) (pc' := 4) (by decide) (by decide) ?_
                                      refine gLoadIN X57 hx (hb hby d_prog_7_method_12_4) (pc' := 5) rfl rfl ?_
                                      refine gLoadAN X57 hx (hb hby d_prog_7_method_12_5) (pc' := 6) rfl rfl rfl ?_
                                      refine gCallVJ X57 hx hZ (y := (⟨"java/lang/String", "length", "()I"⟩ : MethodName)) hown e57 (by rw [hml]; rfl) E (hw _ (List.mem_of_getElem? (i := 27) rfl)) (hw _ (List.mem_of_getElem? (i := 28) rfl)) (hw _ (List.mem_of_getElem? (i := 30) rfl)) (hw _ (List.mem_of_getElem? (i := 29) rfl)) (hw _ (List.mem_of_getElem? (i := 4) rfl)) (hw _ (List.mem_of_getElem? (i := 31) rfl)) (by decide) (argsL := []) (st := [(.int (4 : Int32))]) (c_length_4 l Z a0 hw a t ck c0 c1 c2 c3 h0 hCpt E C V A hc0 hc1 hc2 hc3) (lenOf pd_1 rfl) (hb hby d_prog_7_method_12_6) (pc' := 9) rfl rfl rfl rfl (by decide) (W := 1) (Nat.le_of_eq rfl) (by decide) (by decide) (by decide) ?_
                                      intro T59 X59 e59
                                      refine gIcmpGe X59 hx (hb hby d_prog_7_method_12_9) (pc' := 52) (by decide) (by decide) (pn := 12) rfl (fun (c9'''' : (4 : Int) ≤ (4 : Int)) => ?_) (fun (c9'''' : (4 : Int) < (4 : Int)) => ?_)
                                      · refine gLoadIN X59 hx (hb hby d_prog_7_method_12_52) (pc' := 53) rfl rfl ?_
                                        exact gRetN X59 hx hlk hret (by simp) (hb hby d_prog_7_method_12_53) (w := (1 : Int32)) rfl (by decide) (by decide) (just_t (by omega) e59)
                                      · exact absurd c9'''' (by decide)
                                  · refine gLoadIN X57 hx (hb hby d_prog_7_method_12_28) (pc' := 29) rfl rfl ?_
                                    refine gBipush X57 hx (v := (9 : Int32)) (hb hby d_prog_7_method_12_29) (pc' := 31) rfl rfl ?_
                                    refine gIcmpNeT X57 hx (hb hby d_prog_7_method_12_31) (pc' := 44) (by decide) (by decide) (pn := 34) rfl (fun (c31'' : ¬ c3.toInt = (9 : Int)) => ?_) (fun (c31'' : c3.toInt = (9 : Int)) => ?_)
                                    · refine gIconst X57 hx (v := (0 : Int32)) (hb hby d_prog_7_method_12_44) (pc' := 45) rfl rfl ?_
                                      refine gStoreIN X57 hx (hb hby d_prog_7_method_12_45) (l' := #[.val (.ref a), .val (.int (0 : Int32)), .val (.int (3 : Int32)), .val (.int c3)]) (pc' := 46) rfl rfl ?_
                                      refine gIinc X57 hx (v := (1 : Int32)) (hb hby d_prog_7_method_12_46) (l' := #[.val (.ref a), .val (.int (0 : Int32)), .val (.int (4 : Int32)), .val (.int c3)]) (pc' := 49) rfl rfl rfl rfl ?_
                                      refine gGoto X57 hx (hb hby d_prog_7_method_12_49) (pc' := 4) (by decide) (by decide) ?_
                                      refine gLoadIN X57 hx (hb hby d_prog_7_method_12_4) (pc' := 5) rfl rfl ?_
                                      refine gLoadAN X57 hx (hb hby d_prog_7_method_12_5) (pc' := 6) rfl rfl rfl ?_
                                      refine gCallVJ X57 hx hZ (y := (⟨"java/lang/String", "length", "()I"⟩ : MethodName)) hown e57 (by rw [hml]; rfl) E (hw _ (List.mem_of_getElem? (i := 27) rfl)) (hw _ (List.mem_of_getElem? (i := 28) rfl)) (hw _ (List.mem_of_getElem? (i := 30) rfl)) (hw _ (List.mem_of_getElem? (i := 29) rfl)) (hw _ (List.mem_of_getElem? (i := 4) rfl)) (hw _ (List.mem_of_getElem? (i := 31) rfl)) (by decide) (argsL := []) (st := [(.int (4 : Int32))]) (c_length_4 l Z a0 hw a t ck c0 c1 c2 c3 h0 hCpt E C V A hc0 hc1 hc2 hc3) (lenOf pd_1 rfl) (hb hby d_prog_7_method_12_6) (pc' := 9) rfl rfl rfl rfl (by decide) (W := 1) (Nat.le_of_eq rfl) (by decide) (by decide) (by decide) ?_
                                      intro T60 X60 e60
                                      refine gIcmpGe X60 hx (hb hby d_prog_7_method_12_9) (pc' := 52) (by decide) (by decide) (pn := 12) rfl (fun (c9'''' : (4 : Int) ≤ (4 : Int)) => ?_) (fun (c9'''' : (4 : Int) < (4 : Int)) => ?_)
                                      · refine gLoadIN X60 hx (hb hby d_prog_7_method_12_52) (pc' := 53) rfl rfl ?_
                                        exact gRetN X60 hx hlk hret (by simp) (hb hby d_prog_7_method_12_53) (w := (0 : Int32)) rfl (by decide) (by decide) (just_f (by omega) e60)
                                      · exact absurd c9'''' (by decide)
                                    · refine gLoadIN X57 hx (hb hby d_prog_7_method_12_34) (pc' := 35) rfl rfl ?_
                                      refine gBipush X57 hx (v := (127 : Int32)) (hb hby d_prog_7_method_12_35) (pc' := 37) rfl rfl ?_
                                      refine gIcmpEqT X57 hx (hb hby d_prog_7_method_12_37) (pc' := 44) (by decide) (by decide) (pn := 40) rfl (fun (c37''' : c3.toInt = (127 : Int)) => ?_) (fun (c37''' : ¬ c3.toInt = (127 : Int)) => ?_)
                                      · exact absurd c37''' (by omega)
                                      · refine gIconst X57 hx (v := (1 : Int32)) (hb hby d_prog_7_method_12_40) (pc' := 41) rfl rfl ?_
                                        refine gGoto X57 hx (hb hby d_prog_7_method_12_41) (pc' := 45) (by decide) (by decide) ?_
                                        refine gStoreIN X57 hx (hb hby d_prog_7_method_12_45) (l' := #[.val (.ref a), .val (.int (1 : Int32)), .val (.int (3 : Int32)), .val (.int c3)]) (pc' := 46) rfl rfl ?_
                                        refine gIinc X57 hx (v := (1 : Int32)) (hb hby d_prog_7_method_12_46) (l' := #[.val (.ref a), .val (.int (1 : Int32)), .val (.int (4 : Int32)), .val (.int c3)]) (pc' := 49) rfl rfl rfl rfl ?_
                                        refine gGoto X57 hx (hb hby d_prog_7_method_12_49) (pc' := 4) (by decide) (by decide) ?_
                                        refine gLoadIN X57 hx (hb hby d_prog_7_method_12_4) (pc' := 5) rfl rfl ?_
                                        refine gLoadAN X57 hx (hb hby d_prog_7_method_12_5) (pc' := 6) rfl rfl rfl ?_
                                        refine gCallVJ X57 hx hZ (y := (⟨"java/lang/String", "length", "()I"⟩ : MethodName)) hown e57 (by rw [hml]; rfl) E (hw _ (List.mem_of_getElem? (i := 27) rfl)) (hw _ (List.mem_of_getElem? (i := 28) rfl)) (hw _ (List.mem_of_getElem? (i := 30) rfl)) (hw _ (List.mem_of_getElem? (i := 29) rfl)) (hw _ (List.mem_of_getElem? (i := 4) rfl)) (hw _ (List.mem_of_getElem? (i := 31) rfl)) (by decide) (argsL := []) (st := [(.int (4 : Int32))]) (c_length_4 l Z a0 hw a t ck c0 c1 c2 c3 h0 hCpt E C V A hc0 hc1 hc2 hc3) (lenOf pd_1 rfl) (hb hby d_prog_7_method_12_6) (pc' := 9) rfl rfl rfl rfl (by decide) (W := 1) (Nat.le_of_eq rfl) (by decide) (by decide) (by decide) ?_
                                        intro T61 X61 e61
                                        refine gIcmpGe X61 hx (hb hby d_prog_7_method_12_9) (pc' := 52) (by decide) (by decide) (pn := 12) rfl (fun (c9'''' : (4 : Int) ≤ (4 : Int)) => ?_) (fun (c9'''' : (4 : Int) < (4 : Int)) => ?_)
                                        · refine gLoadIN X61 hx (hb hby d_prog_7_method_12_52) (pc' := 53) rfl rfl ?_
                                          exact gRetN X61 hx hlk hret (by simp) (hb hby d_prog_7_method_12_53) (w := (1 : Int32)) rfl (by decide) (by decide) (just_t (by omega) e61)
                                        · exact absurd c9'''' (by decide)
      · refine gLoadIN X2 hx (hb hby d_prog_7_method_12_28) (pc' := 29) rfl rfl ?_
        refine gBipush X2 hx (v := (9 : Int32)) (hb hby d_prog_7_method_12_29) (pc' := 31) rfl rfl ?_
        refine gIcmpNeT X2 hx (hb hby d_prog_7_method_12_31) (pc' := 44) (by decide) (by decide) (pn := 34) rfl (fun (c31 : ¬ c0.toInt = (9 : Int)) => ?_) (fun (c31 : c0.toInt = (9 : Int)) => ?_)
        · refine gIconst X2 hx (v := (0 : Int32)) (hb hby d_prog_7_method_12_44) (pc' := 45) rfl rfl ?_
          refine gStoreIN X2 hx (hb hby d_prog_7_method_12_45) (l' := #[.val (.ref a), .val (.int (0 : Int32)), .val (.int (0 : Int32)), .val (.int c0)]) (pc' := 46) rfl rfl ?_
          refine gIinc X2 hx (v := (1 : Int32)) (hb hby d_prog_7_method_12_46) (l' := #[.val (.ref a), .val (.int (0 : Int32)), .val (.int (1 : Int32)), .val (.int c0)]) (pc' := 49) rfl rfl rfl rfl ?_
          refine gGoto X2 hx (hb hby d_prog_7_method_12_49) (pc' := 4) (by decide) (by decide) ?_
          refine gLoadIN X2 hx (hb hby d_prog_7_method_12_4) (pc' := 5) rfl rfl ?_
          refine gLoadAN X2 hx (hb hby d_prog_7_method_12_5) (pc' := 6) rfl rfl rfl ?_
          refine gCallVJ X2 hx hZ (y := (⟨"java/lang/String", "length", "()I"⟩ : MethodName)) hown e2 (by rw [hml]; rfl) E (hw _ (List.mem_of_getElem? (i := 27) rfl)) (hw _ (List.mem_of_getElem? (i := 28) rfl)) (hw _ (List.mem_of_getElem? (i := 30) rfl)) (hw _ (List.mem_of_getElem? (i := 29) rfl)) (hw _ (List.mem_of_getElem? (i := 4) rfl)) (hw _ (List.mem_of_getElem? (i := 31) rfl)) (by decide) (argsL := []) (st := [(.int (1 : Int32))]) (c_length_4 l Z a0 hw a t ck c0 c1 c2 c3 h0 hCpt E C V A hc0 hc1 hc2 hc3) (lenOf pd_1 rfl) (hb hby d_prog_7_method_12_6) (pc' := 9) rfl rfl rfl rfl (by decide) (W := 1) (Nat.le_of_eq rfl) (by decide) (by decide) (by decide) ?_
          intro T62 X62 e62
          refine gIcmpGe X62 hx (hb hby d_prog_7_method_12_9) (pc' := 52) (by decide) (by decide) (pn := 12) rfl (fun (c9' : (4 : Int) ≤ (1 : Int)) => ?_) (fun (c9' : (1 : Int) < (4 : Int)) => ?_)
          · exact absurd c9' (by decide)
          · refine gLoadAN X62 hx (hb hby d_prog_7_method_12_12) (pc' := 13) rfl rfl rfl ?_
            refine gLoadIN X62 hx (hb hby d_prog_7_method_12_13) (pc' := 14) rfl rfl ?_
            refine gCallVJ X62 hx hZ (y := (⟨"java/lang/String", "charAt", "(I)C"⟩ : MethodName)) hown e62 (by rw [hml]; rfl) E (hw _ (List.mem_of_getElem? (i := 52) rfl)) (hw _ (List.mem_of_getElem? (i := 53) rfl)) (hw _ (List.mem_of_getElem? (i := 55) rfl)) (hw _ (List.mem_of_getElem? (i := 54) rfl)) (hw _ (List.mem_of_getElem? (i := 4) rfl)) (hw _ (List.mem_of_getElem? (i := 56) rfl)) (by decide) (argsL := [(.int (1 : Int32))]) (st := []) (c_charAt_1_4 l Z a0 hw a t ck c0 c1 c2 c3 h0 hSio hCpt E C V A hc0 hc1 hc2 hc3) (lenOf pd_5 rfl) (hb hby d_prog_7_method_12_14) (pc' := 17) rfl rfl rfl rfl (by decide) (W := 0) (Nat.le_of_eq rfl) (by decide) (by decide) (by decide) ?_
            intro T63 X63 e63
            refine gStoreIN X63 hx (hb hby d_prog_7_method_12_17) (l' := #[.val (.ref a), .val (.int (0 : Int32)), .val (.int (1 : Int32)), .val (.int c1)]) (pc' := 18) rfl rfl ?_
            refine gLoadIN X63 hx (hb hby d_prog_7_method_12_18) (pc' := 19) rfl rfl ?_
            refine gIfEqT X63 hx (hb hby d_prog_7_method_12_19) (pc' := 44) (by decide) (by decide) (pn := 22) rfl (fun (c19' : (0 : Int) = (0 : Int)) => ?_) (fun (c19' : ¬ (0 : Int) = (0 : Int)) => ?_)
            · refine gIconst X63 hx (v := (0 : Int32)) (hb hby d_prog_7_method_12_44) (pc' := 45) rfl rfl ?_
              refine gStoreIN X63 hx (hb hby d_prog_7_method_12_45) (l' := #[.val (.ref a), .val (.int (0 : Int32)), .val (.int (1 : Int32)), .val (.int c1)]) (pc' := 46) rfl rfl ?_
              refine gIinc X63 hx (v := (1 : Int32)) (hb hby d_prog_7_method_12_46) (l' := #[.val (.ref a), .val (.int (0 : Int32)), .val (.int (2 : Int32)), .val (.int c1)]) (pc' := 49) rfl rfl rfl rfl ?_
              refine gGoto X63 hx (hb hby d_prog_7_method_12_49) (pc' := 4) (by decide) (by decide) ?_
              refine gLoadIN X63 hx (hb hby d_prog_7_method_12_4) (pc' := 5) rfl rfl ?_
              refine gLoadAN X63 hx (hb hby d_prog_7_method_12_5) (pc' := 6) rfl rfl rfl ?_
              refine gCallVJ X63 hx hZ (y := (⟨"java/lang/String", "length", "()I"⟩ : MethodName)) hown e63 (by rw [hml]; rfl) E (hw _ (List.mem_of_getElem? (i := 27) rfl)) (hw _ (List.mem_of_getElem? (i := 28) rfl)) (hw _ (List.mem_of_getElem? (i := 30) rfl)) (hw _ (List.mem_of_getElem? (i := 29) rfl)) (hw _ (List.mem_of_getElem? (i := 4) rfl)) (hw _ (List.mem_of_getElem? (i := 31) rfl)) (by decide) (argsL := []) (st := [(.int (2 : Int32))]) (c_length_4 l Z a0 hw a t ck c0 c1 c2 c3 h0 hCpt E C V A hc0 hc1 hc2 hc3) (lenOf pd_1 rfl) (hb hby d_prog_7_method_12_6) (pc' := 9) rfl rfl rfl rfl (by decide) (W := 1) (Nat.le_of_eq rfl) (by decide) (by decide) (by decide) ?_
              intro T64 X64 e64
              refine gIcmpGe X64 hx (hb hby d_prog_7_method_12_9) (pc' := 52) (by decide) (by decide) (pn := 12) rfl (fun (c9'' : (4 : Int) ≤ (2 : Int)) => ?_) (fun (c9'' : (2 : Int) < (4 : Int)) => ?_)
              · exact absurd c9'' (by decide)
              · refine gLoadAN X64 hx (hb hby d_prog_7_method_12_12) (pc' := 13) rfl rfl rfl ?_
                refine gLoadIN X64 hx (hb hby d_prog_7_method_12_13) (pc' := 14) rfl rfl ?_
                refine gCallVJ X64 hx hZ (y := (⟨"java/lang/String", "charAt", "(I)C"⟩ : MethodName)) hown e64 (by rw [hml]; rfl) E (hw _ (List.mem_of_getElem? (i := 52) rfl)) (hw _ (List.mem_of_getElem? (i := 53) rfl)) (hw _ (List.mem_of_getElem? (i := 55) rfl)) (hw _ (List.mem_of_getElem? (i := 54) rfl)) (hw _ (List.mem_of_getElem? (i := 4) rfl)) (hw _ (List.mem_of_getElem? (i := 56) rfl)) (by decide) (argsL := [(.int (2 : Int32))]) (st := []) (c_charAt_2_4 l Z a0 hw a t ck c0 c1 c2 c3 h0 hSio hCpt E C V A hc0 hc1 hc2 hc3) (lenOf pd_5 rfl) (hb hby d_prog_7_method_12_14) (pc' := 17) rfl rfl rfl rfl (by decide) (W := 0) (Nat.le_of_eq rfl) (by decide) (by decide) (by decide) ?_
                intro T65 X65 e65
                refine gStoreIN X65 hx (hb hby d_prog_7_method_12_17) (l' := #[.val (.ref a), .val (.int (0 : Int32)), .val (.int (2 : Int32)), .val (.int c2)]) (pc' := 18) rfl rfl ?_
                refine gLoadIN X65 hx (hb hby d_prog_7_method_12_18) (pc' := 19) rfl rfl ?_
                refine gIfEqT X65 hx (hb hby d_prog_7_method_12_19) (pc' := 44) (by decide) (by decide) (pn := 22) rfl (fun (c19'' : (0 : Int) = (0 : Int)) => ?_) (fun (c19'' : ¬ (0 : Int) = (0 : Int)) => ?_)
                · refine gIconst X65 hx (v := (0 : Int32)) (hb hby d_prog_7_method_12_44) (pc' := 45) rfl rfl ?_
                  refine gStoreIN X65 hx (hb hby d_prog_7_method_12_45) (l' := #[.val (.ref a), .val (.int (0 : Int32)), .val (.int (2 : Int32)), .val (.int c2)]) (pc' := 46) rfl rfl ?_
                  refine gIinc X65 hx (v := (1 : Int32)) (hb hby d_prog_7_method_12_46) (l' := #[.val (.ref a), .val (.int (0 : Int32)), .val (.int (3 : Int32)), .val (.int c2)]) (pc' := 49) rfl rfl rfl rfl ?_
                  refine gGoto X65 hx (hb hby d_prog_7_method_12_49) (pc' := 4) (by decide) (by decide) ?_
                  refine gLoadIN X65 hx (hb hby d_prog_7_method_12_4) (pc' := 5) rfl rfl ?_
                  refine gLoadAN X65 hx (hb hby d_prog_7_method_12_5) (pc' := 6) rfl rfl rfl ?_
                  refine gCallVJ X65 hx hZ (y := (⟨"java/lang/String", "length", "()I"⟩ : MethodName)) hown e65 (by rw [hml]; rfl) E (hw _ (List.mem_of_getElem? (i := 27) rfl)) (hw _ (List.mem_of_getElem? (i := 28) rfl)) (hw _ (List.mem_of_getElem? (i := 30) rfl)) (hw _ (List.mem_of_getElem? (i := 29) rfl)) (hw _ (List.mem_of_getElem? (i := 4) rfl)) (hw _ (List.mem_of_getElem? (i := 31) rfl)) (by decide) (argsL := []) (st := [(.int (3 : Int32))]) (c_length_4 l Z a0 hw a t ck c0 c1 c2 c3 h0 hCpt E C V A hc0 hc1 hc2 hc3) (lenOf pd_1 rfl) (hb hby d_prog_7_method_12_6) (pc' := 9) rfl rfl rfl rfl (by decide) (W := 1) (Nat.le_of_eq rfl) (by decide) (by decide) (by decide) ?_
                  intro T66 X66 e66
                  refine gIcmpGe X66 hx (hb hby d_prog_7_method_12_9) (pc' := 52) (by decide) (by decide) (pn := 12) rfl (fun (c9''' : (4 : Int) ≤ (3 : Int)) => ?_) (fun (c9''' : (3 : Int) < (4 : Int)) => ?_)
                  · exact absurd c9''' (by decide)
                  · refine gLoadAN X66 hx (hb hby d_prog_7_method_12_12) (pc' := 13) rfl rfl rfl ?_
                    refine gLoadIN X66 hx (hb hby d_prog_7_method_12_13) (pc' := 14) rfl rfl ?_
                    refine gCallVJ X66 hx hZ (y := (⟨"java/lang/String", "charAt", "(I)C"⟩ : MethodName)) hown e66 (by rw [hml]; rfl) E (hw _ (List.mem_of_getElem? (i := 52) rfl)) (hw _ (List.mem_of_getElem? (i := 53) rfl)) (hw _ (List.mem_of_getElem? (i := 55) rfl)) (hw _ (List.mem_of_getElem? (i := 54) rfl)) (hw _ (List.mem_of_getElem? (i := 4) rfl)) (hw _ (List.mem_of_getElem? (i := 56) rfl)) (by decide) (argsL := [(.int (3 : Int32))]) (st := []) (c_charAt_3_4 l Z a0 hw a t ck c0 c1 c2 c3 h0 hSio hCpt E C V A hc0 hc1 hc2 hc3) (lenOf pd_5 rfl) (hb hby d_prog_7_method_12_14) (pc' := 17) rfl rfl rfl rfl (by decide) (W := 0) (Nat.le_of_eq rfl) (by decide) (by decide) (by decide) ?_
                    intro T67 X67 e67
                    refine gStoreIN X67 hx (hb hby d_prog_7_method_12_17) (l' := #[.val (.ref a), .val (.int (0 : Int32)), .val (.int (3 : Int32)), .val (.int c3)]) (pc' := 18) rfl rfl ?_
                    refine gLoadIN X67 hx (hb hby d_prog_7_method_12_18) (pc' := 19) rfl rfl ?_
                    refine gIfEqT X67 hx (hb hby d_prog_7_method_12_19) (pc' := 44) (by decide) (by decide) (pn := 22) rfl (fun (c19''' : (0 : Int) = (0 : Int)) => ?_) (fun (c19''' : ¬ (0 : Int) = (0 : Int)) => ?_)
                    · refine gIconst X67 hx (v := (0 : Int32)) (hb hby d_prog_7_method_12_44) (pc' := 45) rfl rfl ?_
                      refine gStoreIN X67 hx (hb hby d_prog_7_method_12_45) (l' := #[.val (.ref a), .val (.int (0 : Int32)), .val (.int (3 : Int32)), .val (.int c3)]) (pc' := 46) rfl rfl ?_
                      refine gIinc X67 hx (v := (1 : Int32)) (hb hby d_prog_7_method_12_46) (l' := #[.val (.ref a), .val (.int (0 : Int32)), .val (.int (4 : Int32)), .val (.int c3)]) (pc' := 49) rfl rfl rfl rfl ?_
                      refine gGoto X67 hx (hb hby d_prog_7_method_12_49) (pc' := 4) (by decide) (by decide) ?_
                      refine gLoadIN X67 hx (hb hby d_prog_7_method_12_4) (pc' := 5) rfl rfl ?_
                      refine gLoadAN X67 hx (hb hby d_prog_7_method_12_5) (pc' := 6) rfl rfl rfl ?_
                      refine gCallVJ X67 hx hZ (y := (⟨"java/lang/String", "length", "()I"⟩ : MethodName)) hown e67 (by rw [hml]; rfl) E (hw _ (List.mem_of_getElem? (i := 27) rfl)) (hw _ (List.mem_of_getElem? (i := 28) rfl)) (hw _ (List.mem_of_getElem? (i := 30) rfl)) (hw _ (List.mem_of_getElem? (i := 29) rfl)) (hw _ (List.mem_of_getElem? (i := 4) rfl)) (hw _ (List.mem_of_getElem? (i := 31) rfl)) (by decide) (argsL := []) (st := [(.int (4 : Int32))]) (c_length_4 l Z a0 hw a t ck c0 c1 c2 c3 h0 hCpt E C V A hc0 hc1 hc2 hc3) (lenOf pd_1 rfl) (hb hby d_prog_7_method_12_6) (pc' := 9) rfl rfl rfl rfl (by decide) (W := 1) (Nat.le_of_eq rfl) (by decide) (by decide) (by decide) ?_
                      intro T68 X68 e68
                      refine gIcmpGe X68 hx (hb hby d_prog_7_method_12_9) (pc' := 52) (by decide) (by decide) (pn := 12) rfl (fun (c9'''' : (4 : Int) ≤ (4 : Int)) => ?_) (fun (c9'''' : (4 : Int) < (4 : Int)) => ?_)
                      · refine gLoadIN X68 hx (hb hby d_prog_7_method_12_52) (pc' := 53) rfl rfl ?_
                        exact gRetN X68 hx hlk hret (by simp) (hb hby d_prog_7_method_12_53) (w := (0 : Int32)) rfl (by decide) (by decide) (just_f (by omega) e68)
                      · exact absurd c9'''' (by decide)
                    · exact absurd c19''' (by decide)
                · exact absurd c19'' (by decide)
            · exact absurd c19' (by decide)
        · refine gLoadIN X2 hx (hb hby d_prog_7_method_12_34) (pc' := 35) rfl rfl ?_
          refine gBipush X2 hx (v := (127 : Int32)) (hb hby d_prog_7_method_12_35) (pc' := 37) rfl rfl ?_
          refine gIcmpEqT X2 hx (hb hby d_prog_7_method_12_37) (pc' := 44) (by decide) (by decide) (pn := 40) rfl (fun (c37 : c0.toInt = (127 : Int)) => ?_) (fun (c37 : ¬ c0.toInt = (127 : Int)) => ?_)
          · exact absurd c37 (by omega)
          · refine gIconst X2 hx (v := (1 : Int32)) (hb hby d_prog_7_method_12_40) (pc' := 41) rfl rfl ?_
            refine gGoto X2 hx (hb hby d_prog_7_method_12_41) (pc' := 45) (by decide) (by decide) ?_
            refine gStoreIN X2 hx (hb hby d_prog_7_method_12_45) (l' := #[.val (.ref a), .val (.int (1 : Int32)), .val (.int (0 : Int32)), .val (.int c0)]) (pc' := 46) rfl rfl ?_
            refine gIinc X2 hx (v := (1 : Int32)) (hb hby d_prog_7_method_12_46) (l' := #[.val (.ref a), .val (.int (1 : Int32)), .val (.int (1 : Int32)), .val (.int c0)]) (pc' := 49) rfl rfl rfl rfl ?_
            refine gGoto X2 hx (hb hby d_prog_7_method_12_49) (pc' := 4) (by decide) (by decide) ?_
            refine gLoadIN X2 hx (hb hby d_prog_7_method_12_4) (pc' := 5) rfl rfl ?_
            refine gLoadAN X2 hx (hb hby d_prog_7_method_12_5) (pc' := 6) rfl rfl rfl ?_
            refine gCallVJ X2 hx hZ (y := (⟨"java/lang/String", "length", "()I"⟩ : MethodName)) hown e2 (by rw [hml]; rfl) E (hw _ (List.mem_of_getElem? (i := 27) rfl)) (hw _ (List.mem_of_getElem? (i := 28) rfl)) (hw _ (List.mem_of_getElem? (i := 30) rfl)) (hw _ (List.mem_of_getElem? (i := 29) rfl)) (hw _ (List.mem_of_getElem? (i := 4) rfl)) (hw _ (List.mem_of_getElem? (i := 31) rfl)) (by decide) (argsL := []) (st := [(.int (1 : Int32))]) (c_length_4 l Z a0 hw a t ck c0 c1 c2 c3 h0 hCpt E C V A hc0 hc1 hc2 hc3) (lenOf pd_1 rfl) (hb hby d_prog_7_method_12_6) (pc' := 9) rfl rfl rfl rfl (by decide) (W := 1) (Nat.le_of_eq rfl) (by decide) (by decide) (by decide) ?_
            intro T69 X69 e69
            refine gIcmpGe X69 hx (hb hby d_prog_7_method_12_9) (pc' := 52) (by decide) (by decide) (pn := 12) rfl (fun (c9' : (4 : Int) ≤ (1 : Int)) => ?_) (fun (c9' : (1 : Int) < (4 : Int)) => ?_)
            · exact absurd c9' (by decide)
            · refine gLoadAN X69 hx (hb hby d_prog_7_method_12_12) (pc' := 13) rfl rfl rfl ?_
              refine gLoadIN X69 hx (hb hby d_prog_7_method_12_13) (pc' := 14) rfl rfl ?_
              refine gCallVJ X69 hx hZ (y := (⟨"java/lang/String", "charAt", "(I)C"⟩ : MethodName)) hown e69 (by rw [hml]; rfl) E (hw _ (List.mem_of_getElem? (i := 52) rfl)) (hw _ (List.mem_of_getElem? (i := 53) rfl)) (hw _ (List.mem_of_getElem? (i := 55) rfl)) (hw _ (List.mem_of_getElem? (i := 54) rfl)) (hw _ (List.mem_of_getElem? (i := 4) rfl)) (hw _ (List.mem_of_getElem? (i := 56) rfl)) (by decide) (argsL := [(.int (1 : Int32))]) (st := []) (c_charAt_1_4 l Z a0 hw a t ck c0 c1 c2 c3 h0 hSio hCpt E C V A hc0 hc1 hc2 hc3) (lenOf pd_5 rfl) (hb hby d_prog_7_method_12_14) (pc' := 17) rfl rfl rfl rfl (by decide) (W := 0) (Nat.le_of_eq rfl) (by decide) (by decide) (by decide) ?_
              intro T70 X70 e70
              refine gStoreIN X70 hx (hb hby d_prog_7_method_12_17) (l' := #[.val (.ref a), .val (.int (1 : Int32)), .val (.int (1 : Int32)), .val (.int c1)]) (pc' := 18) rfl rfl ?_
              refine gLoadIN X70 hx (hb hby d_prog_7_method_12_18) (pc' := 19) rfl rfl ?_
              refine gIfEqT X70 hx (hb hby d_prog_7_method_12_19) (pc' := 44) (by decide) (by decide) (pn := 22) rfl (fun (c19' : (1 : Int) = (0 : Int)) => ?_) (fun (c19' : ¬ (1 : Int) = (0 : Int)) => ?_)
              · exact absurd c19' (by decide)
              · refine gLoadIN X70 hx (hb hby d_prog_7_method_12_22) (pc' := 23) rfl rfl ?_
                refine gBipush X70 hx (v := (32 : Int32)) (hb hby d_prog_7_method_12_23) (pc' := 25) rfl rfl ?_
                refine gIcmpGe X70 hx (hb hby d_prog_7_method_12_25) (pc' := 34) (by decide) (by decide) (pn := 28) rfl (fun (c25' : (32 : Int) ≤ c1.toInt) => ?_) (fun (c25' : c1.toInt < (32 : Int)) => ?_)
                · refine gLoadIN X70 hx (hb hby d_prog_7_method_12_34) (pc' := 35) rfl rfl ?_
                  refine gBipush X70 hx (v := (127 : Int32)) (hb hby d_prog_7_method_12_35) (pc' := 37) rfl rfl ?_
                  refine gIcmpEqT X70 hx (hb hby d_prog_7_method_12_37) (pc' := 44) (by decide) (by decide) (pn := 40) rfl (fun (c37' : c1.toInt = (127 : Int)) => ?_) (fun (c37' : ¬ c1.toInt = (127 : Int)) => ?_)
                  · refine gIconst X70 hx (v := (0 : Int32)) (hb hby d_prog_7_method_12_44) (pc' := 45) rfl rfl ?_
                    refine gStoreIN X70 hx (hb hby d_prog_7_method_12_45) (l' := #[.val (.ref a), .val (.int (0 : Int32)), .val (.int (1 : Int32)), .val (.int c1)]) (pc' := 46) rfl rfl ?_
                    refine gIinc X70 hx (v := (1 : Int32)) (hb hby d_prog_7_method_12_46) (l' := #[.val (.ref a), .val (.int (0 : Int32)), .val (.int (2 : Int32)), .val (.int c1)]) (pc' := 49) rfl rfl rfl rfl ?_
                    refine gGoto X70 hx (hb hby d_prog_7_method_12_49) (pc' := 4) (by decide) (by decide) ?_
                    refine gLoadIN X70 hx (hb hby d_prog_7_method_12_4) (pc' := 5) rfl rfl ?_
                    refine gLoadAN X70 hx (hb hby d_prog_7_method_12_5) (pc' := 6) rfl rfl rfl ?_
                    refine gCallVJ X70 hx hZ (y := (⟨"java/lang/String", "length", "()I"⟩ : MethodName)) hown e70 (by rw [hml]; rfl) E (hw _ (List.mem_of_getElem? (i := 27) rfl)) (hw _ (List.mem_of_getElem? (i := 28) rfl)) (hw _ (List.mem_of_getElem? (i := 30) rfl)) (hw _ (List.mem_of_getElem? (i := 29) rfl)) (hw _ (List.mem_of_getElem? (i := 4) rfl)) (hw _ (List.mem_of_getElem? (i := 31) rfl)) (by decide) (argsL := []) (st := [(.int (2 : Int32))]) (c_length_4 l Z a0 hw a t ck c0 c1 c2 c3 h0 hCpt E C V A hc0 hc1 hc2 hc3) (lenOf pd_1 rfl) (hb hby d_prog_7_method_12_6) (pc' := 9) rfl rfl rfl rfl (by decide) (W := 1) (Nat.le_of_eq rfl) (by decide) (by decide) (by decide) ?_
                    intro T71 X71 e71
                    refine gIcmpGe X71 hx (hb hby d_prog_7_method_12_9) (pc' := 52) (by decide) (by decide) (pn := 12) rfl (fun (c9'' : (4 : Int) ≤ (2 : Int)) => ?_) (fun (c9'' : (2 : Int) < (4 : Int)) => ?_)
                    · exact absurd c9'' (by decide)
                    · refine gLoadAN X71 hx (hb hby d_prog_7_method_12_12) (pc' := 13) rfl rfl rfl ?_
                      refine gLoadIN X71 hx (hb hby d_prog_7_method_12_13) (pc' := 14) rfl rfl ?_
                      refine gCallVJ X71 hx hZ (y := (⟨"java/lang/String", "charAt", "(I)C"⟩ : MethodName)) hown e71 (by rw [hml]; rfl) E (hw _ (List.mem_of_getElem? (i := 52) rfl)) (hw _ (List.mem_of_getElem? (i := 53) rfl)) (hw _ (List.mem_of_getElem? (i := 55) rfl)) (hw _ (List.mem_of_getElem? (i := 54) rfl)) (hw _ (List.mem_of_getElem? (i := 4) rfl)) (hw _ (List.mem_of_getElem? (i := 56) rfl)) (by decide) (argsL := [(.int (2 : Int32))]) (st := []) (c_charAt_2_4 l Z a0 hw a t ck c0 c1 c2 c3 h0 hSio hCpt E C V A hc0 hc1 hc2 hc3) (lenOf pd_5 rfl) (hb hby d_prog_7_method_12_14) (pc' := 17) rfl rfl rfl rfl (by decide) (W := 0) (Nat.le_of_eq rfl) (by decide) (by decide) (by decide) ?_
                      intro T72 X72 e72
                      refine gStoreIN X72 hx (hb hby d_prog_7_method_12_17) (l' := #[.val (.ref a), .val (.int (0 : Int32)), .val (.int (2 : Int32)), .val (.int c2)]) (pc' := 18) rfl rfl ?_
                      refine gLoadIN X72 hx (hb hby d_prog_7_method_12_18) (pc' := 19) rfl rfl ?_
                      refine gIfEqT X72 hx (hb hby d_prog_7_method_12_19) (pc' := 44) (by decide) (by decide) (pn := 22) rfl (fun (c19'' : (0 : Int) = (0 : Int)) => ?_) (fun (c19'' : ¬ (0 : Int) = (0 : Int)) => ?_)
                      · refine gIconst X72 hx (v := (0 : Int32)) (hb hby d_prog_7_method_12_44) (pc' := 45) rfl rfl ?_
                        refine gStoreIN X72 hx (hb hby d_prog_7_method_12_45) (l' := #[.val (.ref a), .val (.int (0 : Int32)), .val (.int (2 : Int32)), .val (.int c2)]) (pc' := 46) rfl rfl ?_
                        refine gIinc X72 hx (v := (1 : Int32)) (hb hby d_prog_7_method_12_46) (l' := #[.val (.ref a), .val (.int (0 : Int32)), .val (.int (3 : Int32)), .val (.int c2)]) (pc' := 49) rfl rfl rfl rfl ?_
                        refine gGoto X72 hx (hb hby d_prog_7_method_12_49) (pc' := 4) (by decide) (by decide) ?_
                        refine gLoadIN X72 hx (hb hby d_prog_7_method_12_4) (pc' := 5) rfl rfl ?_
                        refine gLoadAN X72 hx (hb hby d_prog_7_method_12_5) (pc' := 6) rfl rfl rfl ?_
                        refine gCallVJ X72 hx hZ (y := (⟨"java/lang/String", "length", "()I"⟩ : MethodName)) hown e72 (by rw [hml]; rfl) E (hw _ (List.mem_of_getElem? (i := 27) rfl)) (hw _ (List.mem_of_getElem? (i := 28) rfl)) (hw _ (List.mem_of_getElem? (i := 30) rfl)) (hw _ (List.mem_of_getElem? (i := 29) rfl)) (hw _ (List.mem_of_getElem? (i := 4) rfl)) (hw _ (List.mem_of_getElem? (i := 31) rfl)) (by decide) (argsL := []) (st := [(.int (3 : Int32))]) (c_length_4 l Z a0 hw a t ck c0 c1 c2 c3 h0 hCpt E C V A hc0 hc1 hc2 hc3) (lenOf pd_1 rfl) (hb hby d_prog_7_method_12_6) (pc' := 9) rfl rfl rfl rfl (by decide) (W := 1) (Nat.le_of_eq rfl) (by decide) (by decide) (by decide) ?_
                        intro T73 X73 e73
                        refine gIcmpGe X73 hx (hb hby d_prog_7_method_12_9) (pc' := 52) (by decide) (by decide) (pn := 12) rfl (fun (c9''' : (4 : Int) ≤ (3 : Int)) => ?_) (fun (c9''' : (3 : Int) < (4 : Int)) => ?_)
                        · exact absurd c9''' (by decide)
                        · refine gLoadAN X73 hx (hb hby d_prog_7_method_12_12) (pc' := 13) rfl rfl rfl ?_
                          refine gLoadIN X73 hx (hb hby d_prog_7_method_12_13) (pc' := 14) rfl rfl ?_
                          refine gCallVJ X73 hx hZ (y := (⟨"java/lang/String", "charAt", "(I)C"⟩ : MethodName)) hown e73 (by rw [hml]; rfl) E (hw _ (List.mem_of_getElem? (i := 52) rfl)) (hw _ (List.mem_of_getElem? (i := 53) rfl)) (hw _ (List.mem_of_getElem? (i := 55) rfl)) (hw _ (List.mem_of_getElem? (i := 54) rfl)) (hw _ (List.mem_of_getElem? (i := 4) rfl)) (hw _ (List.mem_of_getElem? (i := 56) rfl)) (by decide) (argsL := [(.int (3 : Int32))]) (st := []) (c_charAt_3_4 l Z a0 hw a t ck c0 c1 c2 c3 h0 hSio hCpt E C V A hc0 hc1 hc2 hc3) (lenOf pd_5 rfl) (hb hby d_prog_7_method_12_14) (pc' := 17) rfl rfl rfl rfl (by decide) (W := 0) (Nat.le_of_eq rfl) (by decide) (by decide) (by decide) ?_
                          intro T74 X74 e74
                          refine gStoreIN X74 hx (hb hby d_prog_7_method_12_17) (l' := #[.val (.ref a), .val (.int (0 : Int32)), .val (.int (3 : Int32)), .val (.int c3)]) (pc' := 18) rfl rfl ?_
                          refine gLoadIN X74 hx (hb hby d_prog_7_method_12_18) (pc' := 19) rfl rfl ?_
                          refine gIfEqT X74 hx (hb hby d_prog_7_method_12_19) (pc' := 44) (by decide) (by decide) (pn := 22) rfl (fun (c19''' : (0 : Int) = (0 : Int)) => ?_) (fun (c19''' : ¬ (0 : Int) = (0 : Int)) => ?_)
                          · refine gIconst X74 hx (v := (0 : Int32)) (hb hby d_prog_7_method_12_44) (pc' := 45) rfl rfl ?_
                            refine gStoreIN X74 hx (hb hby d_prog_7_method_12_45) (l' := #[.val (.ref a), .val (.int (0 : Int32)), .val (.int (3 : Int32)), .val (.int c3)]) (pc' := 46) rfl rfl ?_
                            refine gIinc X74 hx (v := (1 : Int32)) (hb hby d_prog_7_method_12_46) (l' := #[.val (.ref a), .val (.int (0 : Int32)), .val (.int (4 : Int32)), .val (.int c3)]) (pc' := 49) rfl rfl rfl rfl ?_
                            refine gGoto X74 hx (hb hby d_prog_7_method_12_49) (pc' := 4) (by decide) (by decide) ?_
                            refine gLoadIN X74 hx (hb hby d_prog_7_method_12_4) (pc' := 5) rfl rfl ?_
                            refine gLoadAN X74 hx (hb hby d_prog_7_method_12_5) (pc' := 6) rfl rfl rfl ?_
                            refine gCallVJ X74 hx hZ (y := (⟨"java/lang/String", "length", "()I"⟩ : MethodName)) hown e74 (by rw [hml]; rfl) E (hw _ (List.mem_of_getElem? (i := 27) rfl)) (hw _ (List.mem_of_getElem? (i := 28) rfl)) (hw _ (List.mem_of_getElem? (i := 30) rfl)) (hw _ (List.mem_of_getElem? (i := 29) rfl)) (hw _ (List.mem_of_getElem? (i := 4) rfl)) (hw _ (List.mem_of_getElem? (i := 31) rfl)) (by decide) (argsL := []) (st := [(.int (4 : Int32))]) (c_length_4 l Z a0 hw a t ck c0 c1 c2 c3 h0 hCpt E C V A hc0 hc1 hc2 hc3) (lenOf pd_1 rfl) (hb hby d_prog_7_method_12_6) (pc' := 9) rfl rfl rfl rfl (by decide) (W := 1) (Nat.le_of_eq rfl) (by decide) (by decide) (by decide) ?_
                            intro T75 X75 e75
                            refine gIcmpGe X75 hx (hb hby d_prog_7_method_12_9) (pc' := 52) (by decide) (by decide) (pn := 12) rfl (fun (c9'''' : (4 : Int) ≤ (4 : Int)) => ?_) (fun (c9'''' : (4 : Int) < (4 : Int)) => ?_)
                            · refine gLoadIN X75 hx (hb hby d_prog_7_method_12_52) (pc' := 53) rfl rfl ?_
                              exact gRetN X75 hx hlk hret (by simp) (hb hby d_prog_7_method_12_53) (w := (0 : Int32)) rfl (by decide) (by decide) (just_f (by omega) e75)
                            · exact absurd c9'''' (by decide)
                          · exact absurd c19''' (by decide)
                      · exact absurd c19'' (by decide)
                  · refine gIconst X70 hx (v := (1 : Int32)) (hb hby d_prog_7_method_12_40) (pc' := 41) rfl rfl ?_
                    refine gGoto X70 hx (hb hby d_prog_7_method_12_41) (pc' := 45) (by decide) (by decide) ?_
                    refine gStoreIN X70 hx (hb hby d_prog_7_method_12_45) (l' := #[.val (.ref a), .val (.int (1 : Int32)), .val (.int (1 : Int32)), .val (.int c1)]) (pc' := 46) rfl rfl ?_
                    refine gIinc X70 hx (v := (1 : Int32)) (hb hby d_prog_7_method_12_46) (l' := #[.val (.ref a), .val (.int (1 : Int32)), .val (.int (2 : Int32)), .val (.int c1)]) (pc' := 49) rfl rfl rfl rfl ?_
                    refine gGoto X70 hx (hb hby d_prog_7_method_12_49) (pc' := 4) (by decide) (by decide) ?_
                    refine gLoadIN X70 hx (hb hby d_prog_7_method_12_4) (pc' := 5) rfl rfl ?_
                    refine gLoadAN X70 hx (hb hby d_prog_7_method_12_5) (pc' := 6) rfl rfl rfl ?_
                    refine gCallVJ X70 hx hZ (y := (⟨"java/lang/String", "length", "()I"⟩ : MethodName)) hown e70 (by rw [hml]; rfl) E (hw _ (List.mem_of_getElem? (i := 27) rfl)) (hw _ (List.mem_of_getElem? (i := 28) rfl)) (hw _ (List.mem_of_getElem? (i := 30) rfl)) (hw _ (List.mem_of_getElem? (i := 29) rfl)) (hw _ (List.mem_of_getElem? (i := 4) rfl)) (hw _ (List.mem_of_getElem? (i := 31) rfl)) (by decide) (argsL := []) (st := [(.int (2 : Int32))]) (c_length_4 l Z a0 hw a t ck c0 c1 c2 c3 h0 hCpt E C V A hc0 hc1 hc2 hc3) (lenOf pd_1 rfl) (hb hby d_prog_7_method_12_6) (pc' := 9) rfl rfl rfl rfl (by decide) (W := 1) (Nat.le_of_eq rfl) (by decide) (by decide) (by decide) ?_
                    intro T76 X76 e76
                    refine gIcmpGe X76 hx (hb hby d_prog_7_method_12_9) (pc' := 52) (by decide) (by decide) (pn := 12) rfl (fun (c9'' : (4 : Int) ≤ (2 : Int)) => ?_) (fun (c9'' : (2 : Int) < (4 : Int)) => ?_)
                    · exact absurd c9'' (by decide)
                    · refine gLoadAN X76 hx (hb hby d_prog_7_method_12_12) (pc' := 13) rfl rfl rfl ?_
                      refine gLoadIN X76 hx (hb hby d_prog_7_method_12_13) (pc' := 14) rfl rfl ?_
                      refine gCallVJ X76 hx hZ (y := (⟨"java/lang/String", "charAt", "(I)C"⟩ : MethodName)) hown e76 (by rw [hml]; rfl) E (hw _ (List.mem_of_getElem? (i := 52) rfl)) (hw _ (List.mem_of_getElem? (i := 53) rfl)) (hw _ (List.mem_of_getElem? (i := 55) rfl)) (hw _ (List.mem_of_getElem? (i := 54) rfl)) (hw _ (List.mem_of_getElem? (i := 4) rfl)) (hw _ (List.mem_of_getElem? (i := 56) rfl)) (by decide) (argsL := [(.int (2 : Int32))]) (st := []) (c_charAt_2_4 l Z a0 hw a t ck c0 c1 c2 c3 h0 hSio hCpt E C V A hc0 hc1 hc2 hc3) (lenOf pd_5 rfl) (hb hby d_prog_7_method_12_14) (pc' := 17) rfl rfl rfl rfl (by decide) (W := 0) (Nat.le_of_eq rfl) (by decide) (by decide) (by decide) ?_
                      intro T77 X77 e77
                      refine gStoreIN X77 hx (hb hby d_prog_7_method_12_17) (l' := #[.val (.ref a), .val (.int (1 : Int32)), .val (.int (2 : Int32)), .val (.int c2)]) (pc' := 18) rfl rfl ?_
                      refine gLoadIN X77 hx (hb hby d_prog_7_method_12_18) (pc' := 19) rfl rfl ?_
                      refine gIfEqT X77 hx (hb hby d_prog_7_method_12_19) (pc' := 44) (by decide) (by decide) (pn := 22) rfl (fun (c19'' : (1 : Int) = (0 : Int)) => ?_) (fun (c19'' : ¬ (1 : Int) = (0 : Int)) => ?_)
                      · exact absurd c19'' (by decide)
                      · refine gLoadIN X77 hx (hb hby d_prog_7_method_12_22) (pc' := 23) rfl rfl ?_
                        refine gBipush X77 hx (v := (32 : Int32)) (hb hby d_prog_7_method_12_23) (pc' := 25) rfl rfl ?_
                        refine gIcmpGe X77 hx (hb hby d_prog_7_method_12_25) (pc' := 34) (by decide) (by decide) (pn := 28) rfl (fun (c25'' : (32 : Int) ≤ c2.toInt) => ?_) (fun (c25'' : c2.toInt < (32 : Int)) => ?_)
                        · refine gLoadIN X77 hx (hb hby d_prog_7_method_12_34) (pc' := 35) rfl rfl ?_
                          refine gBipush X77 hx (v := (127 : Int32)) (hb hby d_prog_7_method_12_35) (pc' := 37) rfl rfl ?_
                          refine gIcmpEqT X77 hx (hb hby d_prog_7_method_12_37) (pc' := 44) (by decide) (by decide) (pn := 40) rfl (fun (c37'' : c2.toInt = (127 : Int)) => ?_) (fun (c37'' : ¬ c2.toInt = (127 : Int)) => ?_)
                          · refine gIconst X77 hx (v := (0 : Int32)) (hb hby d_prog_7_method_12_44) (pc' := 45) rfl rfl ?_
                            refine gStoreIN X77 hx (hb hby d_prog_7_method_12_45) (l' := #[.val (.ref a), .val (.int (0 : Int32)), .val (.int (2 : Int32)), .val (.int c2)]) (pc' := 46) rfl rfl ?_
                            refine gIinc X77 hx (v := (1 : Int32)) (hb hby d_prog_7_method_12_46) (l' := #[.val (.ref a), .val (.int (0 : Int32)), .val (.int (3 : Int32)), .val (.int c2)]) (pc' := 49) rfl rfl rfl rfl ?_
                            refine gGoto X77 hx (hb hby d_prog_7_method_12_49) (pc' := 4) (by decide) (by decide) ?_
                            refine gLoadIN X77 hx (hb hby d_prog_7_method_12_4) (pc' := 5) rfl rfl ?_
                            refine gLoadAN X77 hx (hb hby d_prog_7_method_12_5) (pc' := 6) rfl rfl rfl ?_
                            refine gCallVJ X77 hx hZ (y := (⟨"java/lang/String", "length", "()I"⟩ : MethodName)) hown e77 (by rw [hml]; rfl) E (hw _ (List.mem_of_getElem? (i := 27) rfl)) (hw _ (List.mem_of_getElem? (i := 28) rfl)) (hw _ (List.mem_of_getElem? (i := 30) rfl)) (hw _ (List.mem_of_getElem? (i := 29) rfl)) (hw _ (List.mem_of_getElem? (i := 4) rfl)) (hw _ (List.mem_of_getElem? (i := 31) rfl)) (by decide) (argsL := []) (st := [(.int (3 : Int32))]) (c_length_4 l Z a0 hw a t ck c0 c1 c2 c3 h0 hCpt E C V A hc0 hc1 hc2 hc3) (lenOf pd_1 rfl) (hb hby d_prog_7_method_12_6) (pc' := 9) rfl rfl rfl rfl (by decide) (W := 1) (Nat.le_of_eq rfl) (by decide) (by decide) (by decide) ?_
                            intro T78 X78 e78
                            refine gIcmpGe X78 hx (hb hby d_prog_7_method_12_9) (pc' := 52) (by decide) (by decide) (pn := 12) rfl (fun (c9''' : (4 : Int) ≤ (3 : Int)) => ?_) (fun (c9''' : (3 : Int) < (4 : Int)) => ?_)
                            · exact absurd c9''' (by decide)
                            · refine gLoadAN X78 hx (hb hby d_prog_7_method_12_12) (pc' := 13) rfl rfl rfl ?_
                              refine gLoadIN X78 hx (hb hby d_prog_7_method_12_13) (pc' := 14) rfl rfl ?_
                              refine gCallVJ X78 hx hZ (y := (⟨"java/lang/String", "charAt", "(I)C"⟩ : MethodName)) hown e78 (by rw [hml]; rfl) E (hw _ (List.mem_of_getElem? (i := 52) rfl)) (hw _ (List.mem_of_getElem? (i := 53) rfl)) (hw _ (List.mem_of_getElem? (i := 55) rfl)) (hw _ (List.mem_of_getElem? (i := 54) rfl)) (hw _ (List.mem_of_getElem? (i := 4) rfl)) (hw _ (List.mem_of_getElem? (i := 56) rfl)) (by decide) (argsL := [(.int (3 : Int32))]) (st := []) (c_charAt_3_4 l Z a0 hw a t ck c0 c1 c2 c3 h0 hSio hCpt E C V A hc0 hc1 hc2 hc3) (lenOf pd_5 rfl) (hb hby d_prog_7_method_12_14) (pc' := 17) rfl rfl rfl rfl (by decide) (W := 0) (Nat.le_of_eq rfl) (by decide) (by decide) (by decide) ?_
                              intro T79 X79 e79
                              refine gStoreIN X79 hx (hb hby d_prog_7_method_12_17) (l' := #[.val (.ref a), .val (.int (0 : Int32)), .val (.int (3 : Int32)), .val (.int c3)]) (pc' := 18) rfl rfl ?_
                              refine gLoadIN X79 hx (hb hby d_prog_7_method_12_18) (pc' := 19) rfl rfl ?_
                              refine gIfEqT X79 hx (hb hby d_prog_7_method_12_19) (pc' := 44) (by decide) (by decide) (pn := 22) rfl (fun (c19''' : (0 : Int) = (0 : Int)) => ?_) (fun (c19''' : ¬ (0 : Int) = (0 : Int)) => ?_)
                              · refine gIconst X79 hx (v := (0 : Int32)) (hb hby d_prog_7_method_12_44) (pc' := 45) rfl rfl ?_
                                refine gStoreIN X79 hx (hb hby d_prog_7_method_12_45) (l' := #[.val (.ref a), .val (.int (0 : Int32)), .val (.int (3 : Int32)), .val (.int c3)]) (pc' := 46) rfl rfl ?_
                                refine gIinc X79 hx (v := (1 : Int32)) (hb hby d_prog_7_method_12_46) (l' := #[.val (.ref a), .val (.int (0 : Int32)), .val (.int (4 : Int32)), .val (.int c3)]) (pc' := 49) rfl rfl rfl rfl ?_
                                refine gGoto X79 hx (hb hby d_prog_7_method_12_49) (pc' := 4) (by decide) (by decide) ?_
                                refine gLoadIN X79 hx (hb hby d_prog_7_method_12_4) (pc' := 5) rfl rfl ?_
                                refine gLoadAN X79 hx (hb hby d_prog_7_method_12_5) (pc' := 6) rfl rfl rfl ?_
                                refine gCallVJ X79 hx hZ (y := (⟨"java/lang/String", "length", "()I"⟩ : MethodName)) hown e79 (by rw [hml]; rfl) E (hw _ (List.mem_of_getElem? (i := 27) rfl)) (hw _ (List.mem_of_getElem? (i := 28) rfl)) (hw _ (List.mem_of_getElem? (i := 30) rfl)) (hw _ (List.mem_of_getElem? (i := 29) rfl)) (hw _ (List.mem_of_getElem? (i := 4) rfl)) (hw _ (List.mem_of_getElem? (i := 31) rfl)) (by decide) (argsL := []) (st := [(.int (4 : Int32))]) (c_length_4 l Z a0 hw a t ck c0 c1 c2 c3 h0 hCpt E C V A hc0 hc1 hc2 hc3) (lenOf pd_1 rfl) (hb hby d_prog_7_method_12_6) (pc' := 9) rfl rfl rfl rfl (by decide) (W := 1) (Nat.le_of_eq rfl) (by decide) (by decide) (by decide) ?_
                                intro T80 X80 e80
                                refine gIcmpGe X80 hx (hb hby d_prog_7_method_12_9) (pc' := 52) (by decide) (by decide) (pn := 12) rfl (fun (c9'''' : (4 : Int) ≤ (4 : Int)) => ?_) (fun (c9'''' : (4 : Int) < (4 : Int)) => ?_)
                                · refine gLoadIN X80 hx (hb hby d_prog_7_method_12_52) (pc' := 53) rfl rfl ?_
                                  exact gRetN X80 hx hlk hret (by simp) (hb hby d_prog_7_method_12_53) (w := (0 : Int32)) rfl (by decide) (by decide) (just_f (by omega) e80)
                                · exact absurd c9'''' (by decide)
                              · exact absurd c19''' (by decide)
                          · refine gIconst X77 hx (v := (1 : Int32)) (hb hby d_prog_7_method_12_40) (pc' := 41) rfl rfl ?_
                            refine gGoto X77 hx (hb hby d_prog_7_method_12_41) (pc' := 45) (by decide) (by decide) ?_
                            refine gStoreIN X77 hx (hb hby d_prog_7_method_12_45) (l' := #[.val (.ref a), .val (.int (1 : Int32)), .val (.int (2 : Int32)), .val (.int c2)]) (pc' := 46) rfl rfl ?_
                            refine gIinc X77 hx (v := (1 : Int32)) (hb hby d_prog_7_method_12_46) (l' := #[.val (.ref a), .val (.int (1 : Int32)), .val (.int (3 : Int32)), .val (.int c2)]) (pc' := 49) rfl rfl rfl rfl ?_
                            refine gGoto X77 hx (hb hby d_prog_7_method_12_49) (pc' := 4) (by decide) (by decide) ?_
                            refine gLoadIN X77 hx (hb hby d_prog_7_method_12_4) (pc' := 5) rfl rfl ?_
                            refine gLoadAN X77 hx (hb hby d_prog_7_method_12_5) (pc' := 6) rfl rfl rfl ?_
                            refine gCallVJ X77 hx hZ (y := (⟨"java/lang/String", "length", "()I"⟩ : MethodName)) hown e77 (by rw [hml]; rfl) E (hw _ (List.mem_of_getElem? (i := 27) rfl)) (hw _ (List.mem_of_getElem? (i := 28) rfl)) (hw _ (List.mem_of_getElem? (i := 30) rfl)) (hw _ (List.mem_of_getElem? (i := 29) rfl)) (hw _ (List.mem_of_getElem? (i := 4) rfl)) (hw _ (List.mem_of_getElem? (i := 31) rfl)) (by decide) (argsL := []) (st := [(.int (3 : Int32))]) (c_length_4 l Z a0 hw a t ck c0 c1 c2 c3 h0 hCpt E C V A hc0 hc1 hc2 hc3) (lenOf pd_1 rfl) (hb hby d_prog_7_method_12_6) (pc' := 9) rfl rfl rfl rfl (by decide) (W := 1) (Nat.le_of_eq rfl) (by decide) (by decide) (by decide) ?_
                            intro T81 X81 e81
                            refine gIcmpGe X81 hx (hb hby d_prog_7_method_12_9) (pc' := 52) (by decide) (by decide) (pn := 12) rfl (fun (c9''' : (4 : Int) ≤ (3 : Int)) => ?_) (fun (c9''' : (3 : Int) < (4 : Int)) => ?_)
                            · exact absurd c9''' (by decide)
                            · refine gLoadAN X81 hx (hb hby d_prog_7_method_12_12) (pc' := 13) rfl rfl rfl ?_
                              refine gLoadIN X81 hx (hb hby d_prog_7_method_12_13) (pc' := 14) rfl rfl ?_
                              refine gCallVJ X81 hx hZ (y := (⟨"java/lang/String", "charAt", "(I)C"⟩ : MethodName)) hown e81 (by rw [hml]; rfl) E (hw _ (List.mem_of_getElem? (i := 52) rfl)) (hw _ (List.mem_of_getElem? (i := 53) rfl)) (hw _ (List.mem_of_getElem? (i := 55) rfl)) (hw _ (List.mem_of_getElem? (i := 54) rfl)) (hw _ (List.mem_of_getElem? (i := 4) rfl)) (hw _ (List.mem_of_getElem? (i := 56) rfl)) (by decide) (argsL := [(.int (3 : Int32))]) (st := []) (c_charAt_3_4 l Z a0 hw a t ck c0 c1 c2 c3 h0 hSio hCpt E C V A hc0 hc1 hc2 hc3) (lenOf pd_5 rfl) (hb hby d_prog_7_method_12_14) (pc' := 17) rfl rfl rfl rfl (by decide) (W := 0) (Nat.le_of_eq rfl) (by decide) (by decide) (by decide) ?_
                              intro T82 X82 e82
                              refine gStoreIN X82 hx (hb hby d_prog_7_method_12_17) (l' := #[.val (.ref a), .val (.int (1 : Int32)), .val (.int (3 : Int32)), .val (.int c3)]) (pc' := 18) rfl rfl ?_
                              refine gLoadIN X82 hx (hb hby d_prog_7_method_12_18) (pc' := 19) rfl rfl ?_
                              refine gIfEqT X82 hx (hb hby d_prog_7_method_12_19) (pc' := 44) (by decide) (by decide) (pn := 22) rfl (fun (c19''' : (1 : Int) = (0 : Int)) => ?_) (fun (c19''' : ¬ (1 : Int) = (0 : Int)) => ?_)
                              · exact absurd c19''' (by decide)
                              · refine gLoadIN X82 hx (hb hby d_prog_7_method_12_22) (pc' := 23) rfl rfl ?_
                                refine gBipush X82 hx (v := (32 : Int32)) (hb hby d_prog_7_method_12_23) (pc' := 25) rfl rfl ?_
                                refine gIcmpGe X82 hx (hb hby d_prog_7_method_12_25) (pc' := 34) (by decide) (by decide) (pn := 28) rfl (fun (c25''' : (32 : Int) ≤ c3.toInt) => ?_) (fun (c25''' : c3.toInt < (32 : Int)) => ?_)
                                · refine gLoadIN X82 hx (hb hby d_prog_7_method_12_34) (pc' := 35) rfl rfl ?_
                                  refine gBipush X82 hx (v := (127 : Int32)) (hb hby d_prog_7_method_12_35) (pc' := 37) rfl rfl ?_
                                  refine gIcmpEqT X82 hx (hb hby d_prog_7_method_12_37) (pc' := 44) (by decide) (by decide) (pn := 40) rfl (fun (c37''' : c3.toInt = (127 : Int)) => ?_) (fun (c37''' : ¬ c3.toInt = (127 : Int)) => ?_)
                                  · refine gIconst X82 hx (v := (0 : Int32)) (hb hby d_prog_7_method_12_44) (pc' := 45) rfl rfl ?_
                                    refine gStoreIN X82 hx (hb hby d_prog_7_method_12_45) (l' := #[.val (.ref a), .val (.int (0 : Int32)), .val (.int (3 : Int32)), .val (.int c3)]) (pc' := 46) rfl rfl ?_
                                    refine gIinc X82 hx (v := (1 : Int32)) (hb hby d_prog_7_method_12_46) (l' := #[.val (.ref a), .val (.int (0 : Int32)), .val (.int (4 : Int32)), .val (.int c3)]) (pc' := 49) rfl rfl rfl rfl ?_
                                    refine gGoto X82 hx (hb hby d_prog_7_method_12_49) (pc' := 4) (by decide) (by decide) ?_
                                    refine gLoadIN X82 hx (hb hby d_prog_7_method_12_4) (pc' := 5) rfl rfl ?_
                                    refine gLoadAN X82 hx (hb hby d_prog_7_method_12_5) (pc' := 6) rfl rfl rfl ?_
                                    refine gCallVJ X82 hx hZ (y := (⟨"java/lang/String", "length", "()I"⟩ : MethodName)) hown e82 (by rw [hml]; rfl) E (hw _ (List.mem_of_getElem? (i := 27) rfl)) (hw _ (List.mem_of_getElem? (i := 28) rfl)) (hw _ (List.mem_of_getElem? (i := 30) rfl)) (hw _ (List.mem_of_getElem? (i := 29) rfl)) (hw _ (List.mem_of_getElem? (i := 4) rfl)) (hw _ (List.mem_of_getElem? (i := 31) rfl)) (by decide) (argsL := []) (st := [(.int (4 : Int32))]) (c_length_4 l Z a0 hw a t ck c0 c1 c2 c3 h0 hCpt E C V A hc0 hc1 hc2 hc3) (lenOf pd_1 rfl) (hb hby d_prog_7_method_12_6) (pc' := 9) rfl rfl rfl rfl (by decide) (W := 1) (Nat.le_of_eq rfl) (by decide) (by decide) (by decide) ?_
                                    intro T83 X83 e83
                                    refine gIcmpGe X83 hx (hb hby d_prog_7_method_12_9) (pc' := 52) (by decide) (by decide) (pn := 12) rfl (fun (c9'''' : (4 : Int) ≤ (4 : Int)) => ?_) (fun (c9'''' : (4 : Int) < (4 : Int)) => ?_)
                                    · refine gLoadIN X83 hx (hb hby d_prog_7_method_12_52) (pc' := 53) rfl rfl ?_
                                      exact gRetN X83 hx hlk hret (by simp) (hb hby d_prog_7_method_12_53) (w := (0 : Int32)) rfl (by decide) (by decide) (just_f (by omega) e83)
                                    · exact absurd c9'''' (by decide)
                                  · refine gIconst X82 hx (v := (1 : Int32)) (hb hby d_prog_7_method_12_40) (pc' := 41) rfl rfl ?_
                                    refine gGoto X82 hx (hb hby d_prog_7_method_12_41) (pc' := 45) (by decide) (by decide) ?_
                                    refine gStoreIN X82 hx (hb hby d_prog_7_method_12_45) (l' := #[.val (.ref a), .val (.int (1 : Int32)), .val (.int (3 : Int32)), .val (.int c3)]) (pc' := 46) rfl rfl ?_
                                    refine gIinc X82 hx (v := (1 : Int32)) (hb hby d_prog_7_method_12_46) (l' := #[.val (.ref a), .val (.int (1 : Int32)), .val (.int (4 : Int32)), .val (.int c3)]) (pc' := 49) rfl rfl rfl rfl ?_
                                    refine gGoto X82 hx (hb hby d_prog_7_method_12_49) (pc' := 4) (by decide) (by decide) ?_
                                    refine gLoadIN X82 hx (hb hby d_prog_7_method_12_4) (pc' := 5) rfl rfl ?_
                                    refine gLoadAN X82 hx (hb hby d_prog_7_method_12_5) (pc' := 6) rfl rfl rfl ?_
                                    refine gCallVJ X82 hx hZ (y := (⟨"java/lang/String", "length", "()I"⟩ : MethodName)) hown e82 (by rw [hml]; rfl) E (hw _ (List.mem_of_getElem? (i := 27) rfl)) (hw _ (List.mem_of_getElem? (i := 28) rfl)) (hw _ (List.mem_of_getElem? (i := 30) rfl)) (hw _ (List.mem_of_getElem? (i := 29) rfl)) (hw _ (List.mem_of_getElem? (i := 4) rfl)) (hw _ (List.mem_of_getElem? (i := 31) rfl)) (by decide) (argsL := []) (st := [(.int (4 : Int32))]) (c_length_4 l Z a0 hw a t ck c0 c1 c2 c3 h0 hCpt E C V A hc0 hc1 hc2 hc3) (lenOf pd_1 rfl) (hb hby d_prog_7_method_12_6) (pc' := 9) rfl rfl rfl rfl (by decide) (W := 1) (Nat.le_of_eq rfl) (by decide) (by decide) (by decide) ?_
                                    intro T84 X84 e84
                                    refine gIcmpGe X84 hx (hb hby d_prog_7_method_12_9) (pc' := 52) (by decide) (by decide) (pn := 12) rfl (fun (c9'''' : (4 : Int) ≤ (4 : Int)) => ?_) (fun (c9'''' : (4 : Int) < (4 : Int)) => ?_)
                                    · refine gLoadIN X84 hx (hb hby d_prog_7_method_12_52) (pc' := 53) rfl rfl ?_
                                      exact gRetN X84 hx hlk hret (by simp) (hb hby d_prog_7_method_12_53) (w := (1 : Int32)) rfl (by decide) (by decide) (just_t (by omega) e84)
                                    · exact absurd c9'''' (by decide)
                                · refine gLoadIN X82 hx (hb hby d_prog_7_method_12_28) (pc' := 29) rfl rfl ?_
                                  refine gBipush X82 hx (v := (9 : Int32)) (hb hby d_prog_7_method_12_29) (pc' := 31) rfl rfl ?_
                                  refine gIcmpNeT X82 hx (hb hby d_prog_7_method_12_31) (pc' := 44) (by decide) (by decide) (pn := 34) rfl (fun (c31' : ¬ c3.toInt = (9 : Int)) => ?_) (fun (c31' : c3.toInt = (9 : Int)) => ?_)
                                  · refine gIconst X82 hx (v := (0 : Int32)) (hb hby d_prog_7_method_12_44) (pc' := 45) rfl rfl ?_
                                    refine gStoreIN X82 hx (hb hby d_prog_7_method_12_45) (l' := #[.val (.ref a), .val (.int (0 : Int32)), .val (.int (3 : Int32)), .val (.int c3)]) (pc' := 46) rfl rfl ?_
                                    refine gIinc X82 hx (v := (1 : Int32)) (hb hby d_prog_7_method_12_46) (l' := #[.val (.ref a), .val (.int (0 : Int32)), .val (.int (4 : Int32)), .val (.int c3)]) (pc' := 49) rfl rfl rfl rfl ?_
                                    refine gGoto X82 hx (hb hby d_prog_7_method_12_49) (pc' := 4) (by decide) (by decide) ?_
                                    refine gLoadIN X82 hx (hb hby d_prog_7_method_12_4) (pc' := 5) rfl rfl ?_
                                    refine gLoadAN X82 hx (hb hby d_prog_7_method_12_5) (pc' := 6) rfl rfl rfl ?_
                                    refine gCallVJ X82 hx hZ (y := (⟨"java/lang/String", "length", "()I"⟩ : MethodName)) hown e82 (by rw [hml]; rfl) E (hw _ (List.mem_of_getElem? (i := 27) rfl)) (hw _ (List.mem_of_getElem? (i := 28) rfl)) (hw _ (List.mem_of_getElem? (i := 30) rfl)) (hw _ (List.mem_of_getElem? (i := 29) rfl)) (hw _ (List.mem_of_getElem? (i := 4) rfl)) (hw _ (List.mem_of_getElem? (i := 31) rfl)) (by decide) (argsL := []) (st := [(.int (4 : Int32))]) (c_length_4 l Z a0 hw a t ck c0 c1 c2 c3 h0 hCpt E C V A hc0 hc1 hc2 hc3) (lenOf pd_1 rfl) (hb hby d_prog_7_method_12_6) (pc' := 9) rfl rfl rfl rfl (by decide) (W := 1) (Nat.le_of_eq rfl) (by decide) (by decide) (by decide) ?_
                                    intro T85 X85 e85
                                    refine gIcmpGe X85 hx (hb hby d_prog_7_method_12_9) (pc' := 52) (by decide) (by decide) (pn := 12) rfl (fun (c9'''' : (4 : Int) ≤ (4 : Int)) => ?_) (fun (c9'''' : (4 : Int) < (4 : Int)) => ?_)
                                    · refine gLoadIN X85 hx (hb hby d_prog_7_method_12_52) (pc' := 53) rfl rfl ?_
                                      exact gRetN X85 hx hlk hret (by simp) (hb hby d_prog_7_method_12_53) (w := (0 : Int32)) rfl (by decide) (by decide) (just_f (by omega) e85)
                                    · exact absurd c9'''' (by decide)
                                  · refine gLoadIN X82 hx (hb hby d_prog_7_method_12_34) (pc' := 35) rfl rfl ?_
                                    refine gBipush X82 hx (v := (127 : Int32)) (hb hby d_prog_7_method_12_35) (pc' := 37) rfl rfl ?_
                                    refine gIcmpEqT X82 hx (hb hby d_prog_7_method_12_37) (pc' := 44) (by decide) (by decide) (pn := 40) rfl (fun (c37''' : c3.toInt = (127 : Int)) => ?_) (fun (c37''' : ¬ c3.toInt = (127 : Int)) => ?_)
                                    · exact absurd c37''' (by omega)
                                    · refine gIconst X82 hx (v := (1 : Int32)) (hb hby d_prog_7_method_12_40) (pc' := 41) rfl rfl ?_
                                      refine gGoto X82 hx (hb hby d_prog_7_method_12_41) (pc' := 45) (by decide) (by decide) ?_
                                      refine gStoreIN X82 hx (hb hby d_prog_7_method_12_45) (l' := #[.val (.ref a), .val (.int (1 : Int32)), .val (.int (3 : Int32)), .val (.int c3)]) (pc' := 46) rfl rfl ?_
                                      refine gIinc X82 hx (v := (1 : Int32)) (hb hby d_prog_7_method_12_46) (l' := #[.val (.ref a), .val (.int (1 : Int32)), .val (.int (4 : Int32)), .val (.int c3)]) (pc' := 49) rfl rfl rfl rfl ?_
                                      refine gGoto X82 hx (hb hby d_prog_7_method_12_49) (pc' := 4) (by decide) (by decide) ?_
                                      refine gLoadIN X82 hx (hb hby d_prog_7_method_12_4) (pc' := 5) rfl rfl ?_
                                      refine gLoadAN X82 hx (hb hby d_prog_7_method_12_5) (pc' := 6) rfl rfl rfl ?_
                                      refine gCallVJ X82 hx hZ (y := (⟨"java/lang/String", "length", "()I"⟩ : MethodName)) hown e82 (by rw [hml]; rfl) E (hw _ (List.mem_of_getElem? (i := 27) rfl)) (hw _ (List.mem_of_getElem? (i := 28) rfl)) (hw _ (List.mem_of_getElem? (i := 30) rfl)) (hw _ (List.mem_of_getElem? (i := 29) rfl)) (hw _ (List.mem_of_getElem? (i := 4) rfl)) (hw _ (List.mem_of_getElem? (i := 31) rfl)) (by decide) (argsL := []) (st := [(.int (4 : Int32))]) (c_length_4 l Z a0 hw a t ck c0 c1 c2 c3 h0 hCpt E C V A hc0 hc1 hc2 hc3) (lenOf pd_1 rfl) (hb hby d_prog_7_method_12_6) (pc' := 9) rfl rfl rfl rfl (by decide) (W := 1) (Nat.le_of_eq rfl) (by decide) (by decide) (by decide) ?_
                                      intro T86 X86 e86
                                      refine gIcmpGe X86 hx (hb hby d_prog_7_method_12_9) (pc' := 52) (by decide) (by decide) (pn := 12) rfl (fun (c9'''' : (4 : Int) ≤ (4 : Int)) => ?_) (fun (c9'''' : (4 : Int) < (4 : Int)) => ?_)
                                      · refine gLoadIN X86 hx (hb hby d_prog_7_method_12_52) (pc' := 53) rfl rfl ?_
                                        exact gRetN X86 hx hlk hret (by simp) (hb hby d_prog_7_method_12_53) (w := (1 : Int32)) rfl (by decide) (by decide) (just_t (by omega) e86)
                                      · exact absurd c9'''' (by decide)
                        · refine gLoadIN X77 hx (hb hby d_prog_7_method_12_28) (pc' := 29) rfl rfl ?_
                          refine gBipush X77 hx (v := (9 : Int32)) (hb hby d_prog_7_method_12_29) (pc' := 31) rfl rfl ?_
                          refine gIcmpNeT X77 hx (hb hby d_prog_7_method_12_31) (pc' := 44) (by decide) (by decide) (pn := 34) rfl (fun (c31' : ¬ c2.toInt = (9 : Int)) => ?_) (fun (c31' : c2.toInt = (9 : Int)) => ?_)
                          · refine gIconst X77 hx (v := (0 : Int32)) (hb hby d_prog_7_method_12_44) (pc' := 45) rfl rfl ?_
                            refine gStoreIN X77 hx (hb hby d_prog_7_method_12_45) (l' := #[.val (.ref a), .val (.int (0 : Int32)), .val (.int (2 : Int32)), .val (.int c2)]) (pc' := 46) rfl rfl ?_
                            refine gIinc X77 hx (v := (1 : Int32)) (hb hby d_prog_7_method_12_46) (l' := #[.val (.ref a), .val (.int (0 : Int32)), .val (.int (3 : Int32)), .val (.int c2)]) (pc' := 49) rfl rfl rfl rfl ?_
                            refine gGoto X77 hx (hb hby d_prog_7_method_12_49) (pc' := 4) (by decide) (by decide) ?_
                            refine gLoadIN X77 hx (hb hby d_prog_7_method_12_4) (pc' := 5) rfl rfl ?_
                            refine gLoadAN X77 hx (hb hby d_prog_7_method_12_5) (pc' := 6) rfl rfl rfl ?_
                            refine gCallVJ X77 hx hZ (y := (⟨"java/lang/String", "length", "()I"⟩ : MethodName)) hown e77 (by rw [hml]; rfl) E (hw _ (List.mem_of_getElem? (i := 27) rfl)) (hw _ (List.mem_of_getElem? (i := 28) rfl)) (hw _ (List.mem_of_getElem? (i := 30) rfl)) (hw _ (List.mem_of_getElem? (i := 29) rfl)) (hw _ (List.mem_of_getElem? (i := 4) rfl)) (hw _ (List.mem_of_getElem? (i := 31) rfl)) (by decide) (argsL := []) (st := [(.int (3 : Int32))]) (c_length_4 l Z a0 hw a t ck c0 c1 c2 c3 h0 hCpt E C V A hc0 hc1 hc2 hc3) (lenOf pd_1 rfl) (hb hby d_prog_7_method_12_6) (pc' := 9) rfl rfl rfl rfl (by decide) (W := 1) (Nat.le_of_eq rfl) (by decide) (by decide) (by decide) ?_
                            intro T87 X87 e87
                            refine gIcmpGe X87 hx (hb hby d_prog_7_method_12_9) (pc' := 52) (by decide) (by decide) (pn := 12) rfl (fun (c9''' : (4 : Int) ≤ (3 : Int)) => ?_) (fun (c9''' : (3 : Int) < (4 : Int)) => ?_)
                            · exact absurd c9''' (by decide)
                            · refine gLoadAN X87 hx (hb hby d_prog_7_method_12_12) (pc' := 13) rfl rfl rfl ?_
                              refine gLoadIN X87 hx (hb hby d_prog_7_method_12_13) (pc' := 14) rfl rfl ?_
                              refine gCallVJ X87 hx hZ (y := (⟨"java/lang/String", "charAt", "(I)C"⟩ : MethodName)) hown e87 (by rw [hml]; rfl) E (hw _ (List.mem_of_getElem? (i := 52) rfl)) (hw _ (List.mem_of_getElem? (i := 53) rfl)) (hw _ (List.mem_of_getElem? (i := 55) rfl)) (hw _ (List.mem_of_getElem? (i := 54) rfl)) (hw _ (List.mem_of_getElem? (i := 4) rfl)) (hw _ (List.mem_of_getElem? (i := 56) rfl)) (by decide) (argsL := [(.int (3 : Int32))]) (st := []) (c_charAt_3_4 l Z a0 hw a t ck c0 c1 c2 c3 h0 hSio hCpt E C V A hc0 hc1 hc2 hc3) (lenOf pd_5 rfl) (hb hby d_prog_7_method_12_14) (pc' := 17) rfl rfl rfl rfl (by decide) (W := 0) (Nat.le_of_eq rfl) (by decide) (by decide) (by decide) ?_
                              intro T88 X88 e88
                              refine gStoreIN X88 hx (hb hby d_prog_7_method_12_17) (l' := #[.val (.ref a), .val (.int (0 : Int32)), .val (.int (3 : Int32)), .val (.int c3)]) (pc' := 18) rfl rfl ?_
                              refine gLoadIN X88 hx (hb hby d_prog_7_method_12_18) (pc' := 19) rfl rfl ?_
                              refine gIfEqT X88 hx (hb hby d_prog_7_method_12_19) (pc' := 44) (by decide) (by decide) (pn := 22) rfl (fun (c19''' : (0 : Int) = (0 : Int)) => ?_) (fun (c19''' : ¬ (0 : Int) = (0 : Int)) => ?_)
                              · refine gIconst X88 hx (v := (0 : Int32)) (hb hby d_prog_7_method_12_44) (pc' := 45) rfl rfl ?_
                                refine gStoreIN X88 hx (hb hby d_prog_7_method_12_45) (l' := #[.val (.ref a), .val (.int (0 : Int32)), .val (.int (3 : Int32)), .val (.int c3)]) (pc' := 46) rfl rfl ?_
                                refine gIinc X88 hx (v := (1 : Int32)) (hb hby d_prog_7_method_12_46) (l' := #[.val (.ref a), .val (.int (0 : Int32)), .val (.int (4 : Int32)), .val (.int c3)]) (pc' := 49) rfl rfl rfl rfl ?_
                                refine gGoto X88 hx (hb hby d_prog_7_method_12_49) (pc' := 4) (by decide) (by decide) ?_
                                refine gLoadIN X88 hx (hb hby d_prog_7_method_12_4) (pc' := 5) rfl rfl ?_
                                refine gLoadAN X88 hx (hb hby d_prog_7_method_12_5) (pc' := 6) rfl rfl rfl ?_
                                refine gCallVJ X88 hx hZ (y := (⟨"java/lang/String", "length", "()I"⟩ : MethodName)) hown e88 (by rw [hml]; rfl) E (hw _ (List.mem_of_getElem? (i := 27) rfl)) (hw _ (List.mem_of_getElem? (i := 28) rfl)) (hw _ (List.mem_of_getElem? (i := 30) rfl)) (hw _ (List.mem_of_getElem? (i := 29) rfl)) (hw _ (List.mem_of_getElem? (i := 4) rfl)) (hw _ (List.mem_of_getElem? (i := 31) rfl)) (by decide) (argsL := []) (st := [(.int (4 : Int32))]) (c_length_4 l Z a0 hw a t ck c0 c1 c2 c3 h0 hCpt E C V A hc0 hc1 hc2 hc3) (lenOf pd_1 rfl) (hb hby d_prog_7_method_12_6) (pc' := 9) rfl rfl rfl rfl (by decide) (W := 1) (Nat.le_of_eq rfl) (by decide) (by decide) (by decide) ?_
                                intro T89 X89 e89
                                refine gIcmpGe X89 hx (hb hby d_prog_7_method_12_9) (pc' := 52) (by decide) (by decide) (pn := 12) rfl (fun (c9'''' : (4 : Int) ≤ (4 : Int)) => ?_) (fun (c9'''' : (4 : Int) < (4 : Int)) => ?_)
                                · refine gLoadIN X89 hx (hb hby d_prog_7_method_12_52) (pc' := 53) rfl rfl ?_
                                  exact gRetN X89 hx hlk hret (by simp) (hb hby d_prog_7_method_12_53) (w := (0 : Int32)) rfl (by decide) (by decide) (just_f (by omega) e89)
                                · exact absurd c9'''' (by decide)
                              · exact absurd c19''' (by decide)
                          · refine gLoadIN X77 hx (hb hby d_prog_7_method_12_34) (pc' := 35) rfl rfl ?_
                            refine gBipush X77 hx (v := (127 : Int32)) (hb hby d_prog_7_method_12_35) (pc' := 37) rfl rfl ?_
                            refine gIcmpEqT X77 hx (hb hby d_prog_7_method_12_37) (pc' := 44) (by decide) (by decide) (pn := 40) rfl (fun (c37'' : c2.toInt = (127 : Int)) => ?_) (fun (c37'' : ¬ c2.toInt = (127 : Int)) => ?_)
                            · exact absurd c37'' (by omega)
                            · refine gIconst X77 hx (v := (1 : Int32)) (hb hby d_prog_7_method_12_40) (pc' := 41) rfl rfl ?_
                              refine gGoto X77 hx (hb hby d_prog_7_method_12_41) (pc' := 45) (by decide) (by decide) ?_
                              refine gStoreIN X77 hx (hb hby d_prog_7_method_12_45) (l' := #[.val (.ref a), .val (.int (1 : Int32)), .val (.int (2 : Int32)), .val (.int c2)]) (pc' := 46) rfl rfl ?_
                              refine gIinc X77 hx (v := (1 : Int32)) (hb hby d_prog_7_method_12_46) (l' := #[.val (.ref a), .val (.int (1 : Int32)), .val (.int (3 : Int32)), .val (.int c2)]) (pc' := 49) rfl rfl rfl rfl ?_
                              refine gGoto X77 hx (hb hby d_prog_7_method_12_49) (pc' := 4) (by decide) (by decide) ?_
                              refine gLoadIN X77 hx (hb hby d_prog_7_method_12_4) (pc' := 5) rfl rfl ?_
                              refine gLoadAN X77 hx (hb hby d_prog_7_method_12_5) (pc' := 6) rfl rfl rfl ?_
                              refine gCallVJ X77 hx hZ (y := (⟨"java/lang/String", "length", "()I"⟩ : MethodName)) hown e77 (by rw [hml]; rfl) E (hw _ (List.mem_of_getElem? (i := 27) rfl)) (hw _ (List.mem_of_getElem? (i := 28) rfl)) (hw _ (List.mem_of_getElem? (i := 30) rfl)) (hw _ (List.mem_of_getElem? (i := 29) rfl)) (hw _ (List.mem_of_getElem? (i := 4) rfl)) (hw _ (List.mem_of_getElem? (i := 31) rfl)) (by decide) (argsL := []) (st := [(.int (3 : Int32))]) (c_length_4 l Z a0 hw a t ck c0 c1 c2 c3 h0 hCpt E C V A hc0 hc1 hc2 hc3) (lenOf pd_1 rfl) (hb hby d_prog_7_method_12_6) (pc' := 9) rfl rfl rfl rfl (by decide) (W := 1) (Nat.le_of_eq rfl) (by decide) (by decide) (by decide) ?_
                              intro T90 X90 e90
                              refine gIcmpGe X90 hx (hb hby d_prog_7_method_12_9) (pc' := 52) (by decide) (by decide) (pn := 12) rfl (fun (c9''' : (4 : Int) ≤ (3 : Int)) => ?_) (fun (c9''' : (3 : Int) < (4 : Int)) => ?_)
                              · exact absurd c9''' (by decide)
                              · refine gLoadAN X90 hx (hb hby d_prog_7_method_12_12) (pc' := 13) rfl rfl rfl ?_
                                refine gLoadIN X90 hx (hb hby d_prog_7_method_12_13) (pc' := 14) rfl rfl ?_
                                refine gCallVJ X90 hx hZ (y := (⟨"java/lang/String", "charAt", "(I)C"⟩ : MethodName)) hown e90 (by rw [hml]; rfl) E (hw _ (List.mem_of_getElem? (i := 52) rfl)) (hw _ (List.mem_of_getElem? (i := 53) rfl)) (hw _ (List.mem_of_getElem? (i := 55) rfl)) (hw _ (List.mem_of_getElem? (i := 54) rfl)) (hw _ (List.mem_of_getElem? (i := 4) rfl)) (hw _ (List.mem_of_getElem? (i := 56) rfl)) (by decide) (argsL := [(.int (3 : Int32))]) (st := []) (c_charAt_3_4 l Z a0 hw a t ck c0 c1 c2 c3 h0 hSio hCpt E C V A hc0 hc1 hc2 hc3) (lenOf pd_5 rfl) (hb hby d_prog_7_method_12_14) (pc' := 17) rfl rfl rfl rfl (by decide) (W := 0) (Nat.le_of_eq rfl) (by decide) (by decide) (by decide) ?_
                                intro T91 X91 e91
                                refine gStoreIN X91 hx (hb hby d_prog_7_method_12_17) (l' := #[.val (.ref a), .val (.int (1 : Int32)), .val (.int (3 : Int32)), .val (.int c3)]) (pc' := 18) rfl rfl ?_
                                refine gLoadIN X91 hx (hb hby d_prog_7_method_12_18) (pc' := 19) rfl rfl ?_
                                refine gIfEqT X91 hx (hb hby d_prog_7_method_12_19) (pc' := 44) (by decide) (by decide) (pn := 22) rfl (fun (c19''' : (1 : Int) = (0 : Int)) => ?_) (fun (c19''' : ¬ (1 : Int) = (0 : Int)) => ?_)
                                · exact absurd c19''' (by decide)
                                · refine gLoadIN X91 hx (hb hby d_prog_7_method_12_22) (pc' := 23) rfl rfl ?_
                                  refine gBipush X91 hx (v := (32 : Int32)) (hb hby d_prog_7_method_12_23) (pc' := 25) rfl rfl ?_
                                  refine gIcmpGe X91 hx (hb hby d_prog_7_method_12_25) (pc' := 34) (by decide) (by decide) (pn := 28) rfl (fun (c25''' : (32 : Int) ≤ c3.toInt) => ?_) (fun (c25''' : c3.toInt < (32 : Int)) => ?_)
                                  · refine gLoadIN X91 hx (hb hby d_prog_7_method_12_34) (pc' := 35) rfl rfl ?_
                                    refine gBipush X91 hx (v := (127 : Int32)) (hb hby d_prog_7_method_12_35) (pc' := 37) rfl rfl ?_
                                    refine gIcmpEqT X91 hx (hb hby d_prog_7_method_12_37) (pc' := 44) (by decide) (by decide) (pn := 40) rfl (fun (c37''' : c3.toInt = (127 : Int)) => ?_) (fun (c37''' : ¬ c3.toInt = (127 : Int)) => ?_)
                                    · refine gIconst X91 hx (v := (0 : Int32)) (hb hby d_prog_7_method_12_44) (pc' := 45) rfl rfl ?_
                                      refine gStoreIN X91 hx (hb hby d_prog_7_method_12_45) (l' := #[.val (.ref a), .val (.int (0 : Int32)), .val (.int (3 : Int32)), .val (.int c3)]) (pc' := 46) rfl rfl ?_
                                      refine gIinc X91 hx (v := (1 : Int32)) (hb hby d_prog_7_method_12_46) (l' := #[.val (.ref a), .val (.int (0 : Int32)), .val (.int (4 : Int32)), .val (.int c3)]) (pc' := 49) rfl rfl rfl rfl ?_
                                      refine gGoto X91 hx (hb hby d_prog_7_method_12_49) (pc' := 4) (by decide) (by decide) ?_
                                      refine gLoadIN X91 hx (hb hby d_prog_7_method_12_4) (pc' := 5) rfl rfl ?_
                                      refine gLoadAN X91 hx (hb hby d_prog_7_method_12_5) (pc' := 6) rfl rfl rfl ?_
                                      refine gCallVJ X91 hx hZ (y := (⟨"java/lang/String", "length", "()I"⟩ : MethodName)) hown e91 (by rw [hml]; rfl) E (hw _ (List.mem_of_getElem? (i := 27) rfl)) (hw _ (List.mem_of_getElem? (i := 28) rfl)) (hw _ (List.mem_of_getElem? (i := 30) rfl)) (hw _ (List.mem_of_getElem? (i := 29) rfl)) (hw _ (List.mem_of_getElem? (i := 4) rfl)) (hw _ (List.mem_of_getElem? (i := 31) rfl)) (by decide) (argsL := []) (st := [(.int (4 : Int32))]) (c_length_4 l Z a0 hw a t ck c0 c1 c2 c3 h0 hCpt E C V A hc0 hc1 hc2 hc3) (lenOf pd_1 rfl) (hb hby d_prog_7_method_12_6) (pc' := 9) rfl rfl rfl rfl (by decide) (W := 1) (Nat.le_of_eq rfl) (by decide) (by decide) (by decide) ?_
                                      intro T92 X92 e92
                                      refine gIcmpGe X92 hx (hb hby d_prog_7_method_12_9) (pc' := 52) (by decide) (by decide) (pn := 12) rfl (fun (c9'''' : (4 : Int) ≤ (4 : Int)) => ?_) (fun (c9'''' : (4 : Int) < (4 : Int)) => ?_)
                                      · refine gLoadIN X92 hx (hb hby d_prog_7_method_12_52) (pc' := 53) rfl rfl ?_
                                        exact gRetN X92 hx hlk hret (by simp) (hb hby d_prog_7_method_12_53) (w := (0 : Int32)) rfl (by decide) (by decide) (just_f (by omega) e92)
                                      · exact absurd c9'''' (by decide)
                                    · refine gIconst X91 hx (v := (1 : Int32)) (hb hby d_prog_7_method_12_40) (pc' := 41) rfl rfl ?_
                                      refine gGoto X91 hx (hb hby d_prog_7_method_12_41) (pc' := 45) (by decide) (by decide) ?_
                                      refine gStoreIN X91 hx (hb hby d_prog_7_method_12_45) (l' := #[.val (.ref a), .val (.int (1 : Int32)), .val (.int (3 : Int32)), .val (.int c3)]) (pc' := 46) rfl rfl ?_
                                      refine gIinc X91 hx (v := (1 : Int32)) (hb hby d_prog_7_method_12_46) (l' := #[.val (.ref a), .val (.int (1 : Int32)), .val (.int (4 : Int32)), .val (.int c3)]) (pc' := 49) rfl rfl rfl rfl ?_
                                      refine gGoto X91 hx (hb hby d_prog_7_method_12_49) (pc' := 4) (by decide) (by decide) ?_
                                      refine gLoadIN X91 hx (hb hby d_prog_7_method_12_4) (pc' := 5) rfl rfl ?_
                                      refine gLoadAN X91 hx (hb hby d_prog_7_method_12_5) (pc' := 6) rfl rfl rfl ?_
                                      refine gCallVJ X91 hx hZ (y := (⟨"java/lang/String", "length", "()I"⟩ : MethodName)) hown e91 (by rw [hml]; rfl) E (hw _ (List.mem_of_getElem? (i := 27) rfl)) (hw _ (List.mem_of_getElem? (i := 28) rfl)) (hw _ (List.mem_of_getElem? (i := 30) rfl)) (hw _ (List.mem_of_getElem? (i := 29) rfl)) (hw _ (List.mem_of_getElem? (i := 4) rfl)) (hw _ (List.mem_of_getElem? (i := 31) rfl)) (by decide) (argsL := []) (st := [(.int (4 : Int32))]) (c_length_4 l Z a0 hw a t ck c0 c1 c2 c3 h0 hCpt E C V A hc0 hc1 hc2 hc3) (lenOf pd_1 rfl) (hb hby d_prog_7_method_12_6) (pc' := 9) rfl rfl rfl rfl (by decide) (W := 1) (Nat.le_of_eq rfl) (by decide) (by decide) (by decide) ?_
                                      intro T93 X93 e93
                                      refine gIcmpGe X93 hx (hb hby d_prog_7_method_12_9) (pc' := 52) (by decide) (by decide) (pn := 12) rfl (fun (c9'''' : (4 : Int) ≤ (4 : Int)) => ?_) (fun (c9'''' : (4 : Int) < (4 : Int)) => ?_)
                                      · refine gLoadIN X93 hx (hb hby d_prog_7_method_12_52) (pc' := 53) rfl rfl ?_
                                        exact gRetN X93 hx hlk hret (by simp) (hb hby d_prog_7_method_12_53) (w := (1 : Int32)) rfl (by decide) (by decide) (just_t (by omega) e93)
                                      · exact absurd c9'''' (by decide)
                                  · refine gLoadIN X91 hx (hb hby d_prog_7_method_12_28) (pc' := 29) rfl rfl ?_
                                    refine gBipush X91 hx (v := (9 : Int32)) (hb hby d_prog_7_method_12_29) (pc' := 31) rfl rfl ?_
                                    refine gIcmpNeT X91 hx (hb hby d_prog_7_method_12_31) (pc' := 44) (by decide) (by decide) (pn := 34) rfl (fun (c31'' : ¬ c3.toInt = (9 : Int)) => ?_) (fun (c31'' : c3.toInt = (9 : Int)) => ?_)
                                    · refine gIconst X91 hx (v := (0 : Int32)) (hb hby d_prog_7_method_12_44) (pc' := 45) rfl rfl ?_
                                      refine gStoreIN X91 hx (hb hby d_prog_7_method_12_45) (l' := #[.val (.ref a), .val (.int (0 : Int32)), .val (.int (3 : Int32)), .val (.int c3)]) (pc' := 46) rfl rfl ?_
                                      refine gIinc X91 hx (v := (1 : Int32)) (hb hby d_prog_7_method_12_46) (l' := #[.val (.ref a), .val (.int (0 : Int32)), .val (.int (4 : Int32)), .val (.int c3)]) (pc' := 49) rfl rfl rfl rfl ?_
                                      refine gGoto X91 hx (hb hby d_prog_7_method_12_49) (pc' := 4) (by decide) (by decide) ?_
                                      refine gLoadIN X91 hx (hb hby d_prog_7_method_12_4) (pc' := 5) rfl rfl ?_
                                      refine gLoadAN X91 hx (hb hby d_prog_7_method_12_5) (pc' := 6) rfl rfl rfl ?_
                                      refine gCallVJ X91 hx hZ (y := (⟨"java/lang/String", "length", "()I"⟩ : MethodName)) hown e91 (by rw [hml]; rfl) E (hw _ (List.mem_of_getElem? (i := 27) rfl)) (hw _ (List.mem_of_getElem? (i := 28) rfl)) (hw _ (List.mem_of_getElem? (i := 30) rfl)) (hw _ (List.mem_of_getElem? (i := 29) rfl)) (hw _ (List.mem_of_getElem? (i := 4) rfl)) (hw _ (List.mem_of_getElem? (i := 31) rfl)) (by decide) (argsL := []) (st := [(.int (4 : Int32))]) (c_length_4 l Z a0 hw a t ck c0 c1 c2 c3 h0 hCpt E C V A hc0 hc1 hc2 hc3) (lenOf pd_1 rfl) (hb hby d_prog_7_method_12_6) (pc' := 9) rfl rfl rfl rfl (by decide) (W := 1) (Nat.le_of_eq rfl) (by decide) (by decide) (by decide) ?_
                                      intro T94 X94 e94
                                      refine gIcmpGe X94 hx (hb hby d_prog_7_method_12_9) (pc' := 52) (by decide) (by decide) (pn := 12) rfl (fun (c9'''' : (4 : Int) ≤ (4 : Int)) => ?_) (fun (c9'''' : (4 : Int) < (4 : Int)) => ?_)
                                      · refine gLoadIN X94 hx (hb hby d_prog_7_method_12_52) (pc' := 53) rfl rfl ?_
                                        exact gRetN X94 hx hlk hret (by simp) (hb hby d_prog_7_method_12_53) (w := (0 : Int32)) rfl (by decide) (by decide) (just_f (by omega) e94)
                                      · exact absurd c9'''' (by decide)
                                    · refine gLoadIN X91 hx (hb hby d_prog_7_method_12_34) (pc' := 35) rfl rfl ?_
                                      refine gBipush X91 hx (v := (127 : Int32)) (hb hby d_prog_7_method_12_35) (pc' := 37) rfl rfl ?_
                                      refine gIcmpEqT X91 hx (hb hby d_prog_7_method_12_37) (pc' := 44) (by decide) (by decide) (pn := 40) rfl (fun (c37''' : c3.toInt = (127 : Int)) => ?_) (fun (c37''' : ¬ c3.toInt = (127 : Int)) => ?_)
                                      · exact absurd c37''' (by omega)
                                      · refine gIconst X91 hx (v := (1 : Int32)) (hb hby d_prog_7_method_12_40) (pc' := 41) rfl rfl ?_
                                        refine gGoto X91 hx (hb hby d_prog_7_method_12_41) (pc' := 45) (by decide) (by decide) ?_
                                        refine gStoreIN X91 hx (hb hby d_prog_7_method_12_45) (l' := #[.val (.ref a), .val (.int (1 : Int32)), .val (.int (3 : Int32)), .val (.int c3)]) (pc' := 46) rfl rfl ?_
                                        refine gIinc X91 hx (v := (1 : Int32)) (hb hby d_prog_7_method_12_46) (l' := #[.val (.ref a), .val (.int (1 : Int32)), .val (.int (4 : Int32)), .val (.int c3)]) (pc' := 49) rfl rfl rfl rfl ?_
                                        refine gGoto X91 hx (hb hby d_prog_7_method_12_49) (pc' := 4) (by decide) (by decide) ?_
                                        refine gLoadIN X91 hx (hb hby d_prog_7_method_12_4) (pc' := 5) rfl rfl ?_
                                        refine gLoadAN X91 hx (hb hby d_prog_7_method_12_5) (pc' := 6) rfl rfl rfl ?_
                                        refine gCallVJ X91 hx hZ (y := (⟨"java/lang/String", "length", "()I"⟩ : MethodName)) hown e91 (by rw [hml]; rfl) E (hw _ (List.mem_of_getElem? (i := 27) rfl)) (hw _ (List.mem_of_getElem? (i := 28) rfl)) (hw _ (List.mem_of_getElem? (i := 30) rfl)) (hw _ (List.mem_of_getElem? (i := 29) rfl)) (hw _ (List.mem_of_getElem? (i := 4) rfl)) (hw _ (List.mem_of_getElem? (i := 31) rfl)) (by decide) (argsL := []) (st := [(.int (4 : Int32))]) (c_length_4 l Z a0 hw a t ck c0 c1 c2 c3 h0 hCpt E C V A hc0 hc1 hc2 hc3) (lenOf pd_1 rfl) (hb hby d_prog_7_method_12_6) (pc' := 9) rfl rfl rfl rfl (by decide) (W := 1) (Nat.le_of_eq rfl) (by decide) (by decide) (by decide) ?_
                                        intro T95 X95 e95
                                        refine gIcmpGe X95 hx (hb hby d_prog_7_method_12_9) (pc' := 52) (by decide) (by decide) (pn := 12) rfl (fun (c9'''' : (4 : Int) ≤ (4 : Int)) => ?_) (fun (c9'''' : (4 : Int) < (4 : Int)) => ?_)
                                        · refine gLoadIN X95 hx (hb hby d_prog_7_method_12_52) (pc' := 53) rfl rfl ?_
                                          exact gRetN X95 hx hlk hret (by simp) (hb hby d_prog_7_method_12_53) (w := (1 : Int32)) rfl (by decide) (by decide) (just_t (by omega) e95)
                                        · exact absurd c9'''' (by decide)
                · refine gLoadIN X70 hx (hb hby d_prog_7_method_12_28) (pc' := 29) rfl rfl ?_
                  refine gBipush X70 hx (v := (9 : Int32)) (hb hby d_prog_7_method_12_29) (pc' := 31) rfl rfl ?_
                  refine gIcmpNeT X70 hx (hb hby d_prog_7_method_12_31) (pc' := 44) (by decide) (by decide) (pn := 34) rfl (fun (c31' : ¬ c1.toInt = (9 : Int)) => ?_) (fun (c31' : c1.toInt = (9 : Int)) => ?_)
                  · refine gIconst X70 hx (v := (0 : Int32)) (hb hby d_prog_7_method_12_44) (pc' := 45) rfl rfl ?_
                    refine gStoreIN X70 hx (hb hby d_prog_7_method_12_45) (l' := #[.val (.ref a), .val (.int (0 : Int32)), .val (.int (1 : Int32)), .val (.int c1)]) (pc' := 46) rfl rfl ?_
                    refine gIinc X70 hx (v := (1 : Int32)) (hb hby d_prog_7_method_12_46) (l' := #[.val (.ref a), .val (.int (0 : Int32)), .val (.int (2 : Int32)), .val (.int c1)]) (pc' := 49) rfl rfl rfl rfl ?_
                    refine gGoto X70 hx (hb hby d_prog_7_method_12_49) (pc' := 4) (by decide) (by decide) ?_
                    refine gLoadIN X70 hx (hb hby d_prog_7_method_12_4) (pc' := 5) rfl rfl ?_
                    refine gLoadAN X70 hx (hb hby d_prog_7_method_12_5) (pc' := 6) rfl rfl rfl ?_
                    refine gCallVJ X70 hx hZ (y := (⟨"java/lang/String", "length", "()I"⟩ : MethodName)) hown e70 (by rw [hml]; rfl) E (hw _ (List.mem_of_getElem? (i := 27) rfl)) (hw _ (List.mem_of_getElem? (i := 28) rfl)) (hw _ (List.mem_of_getElem? (i := 30) rfl)) (hw _ (List.mem_of_getElem? (i := 29) rfl)) (hw _ (List.mem_of_getElem? (i := 4) rfl)) (hw _ (List.mem_of_getElem? (i := 31) rfl)) (by decide) (argsL := []) (st := [(.int (2 : Int32))]) (c_length_4 l Z a0 hw a t ck c0 c1 c2 c3 h0 hCpt E C V A hc0 hc1 hc2 hc3) (lenOf pd_1 rfl) (hb hby d_prog_7_method_12_6) (pc' := 9) rfl rfl rfl rfl (by decide) (W := 1) (Nat.le_of_eq rfl) (by decide) (by decide) (by decide) ?_
                    intro T96 X96 e96
                    refine gIcmpGe X96 hx (hb hby d_prog_7_method_12_9) (pc' := 52) (by decide) (by decide) (pn := 12) rfl (fun (c9'' : (4 : Int) ≤ (2 : Int)) => ?_) (fun (c9'' : (2 : Int) < (4 : Int)) => ?_)
                    · exact absurd c9'' (by decide)
                    · refine gLoadAN X96 hx (hb hby d_prog_7_method_12_12) (pc' := 13) rfl rfl rfl ?_
                      refine gLoadIN X96 hx (hb hby d_prog_7_method_12_13) (pc' := 14) rfl rfl ?_
                      refine gCallVJ X96 hx hZ (y := (⟨"java/lang/String", "charAt", "(I)C"⟩ : MethodName)) hown e96 (by rw [hml]; rfl) E (hw _ (List.mem_of_getElem? (i := 52) rfl)) (hw _ (List.mem_of_getElem? (i := 53) rfl)) (hw _ (List.mem_of_getElem? (i := 55) rfl)) (hw _ (List.mem_of_getElem? (i := 54) rfl)) (hw _ (List.mem_of_getElem? (i := 4) rfl)) (hw _ (List.mem_of_getElem? (i := 56) rfl)) (by decide) (argsL := [(.int (2 : Int32))]) (st := []) (c_charAt_2_4 l Z a0 hw a t ck c0 c1 c2 c3 h0 hSio hCpt E C V A hc0 hc1 hc2 hc3) (lenOf pd_5 rfl) (hb hby d_prog_7_method_12_14) (pc' := 17) rfl rfl rfl rfl (by decide) (W := 0) (Nat.le_of_eq rfl) (by decide) (by decide) (by decide) ?_
                      intro T97 X97 e97
                      refine gStoreIN X97 hx (hb hby d_prog_7_method_12_17) (l' := #[.val (.ref a), .val (.int (0 : Int32)), .val (.int (2 : Int32)), .val (.int c2)]) (pc' := 18) rfl rfl ?_
                      refine gLoadIN X97 hx (hb hby d_prog_7_method_12_18) (pc' := 19) rfl rfl ?_
                      refine gIfEqT X97 hx (hb hby d_prog_7_method_12_19) (pc' := 44) (by decide) (by decide) (pn := 22) rfl (fun (c19'' : (0 : Int) = (0 : Int)) => ?_) (fun (c19'' : ¬ (0 : Int) = (0 : Int)) => ?_)
                      · refine gIconst X97 hx (v := (0 : Int32)) (hb hby d_prog_7_method_12_44) (pc' := 45) rfl rfl ?_
                        refine gStoreIN X97 hx (hb hby d_prog_7_method_12_45) (l' := #[.val (.ref a), .val (.int (0 : Int32)), .val (.int (2 : Int32)), .val (.int c2)]) (pc' := 46) rfl rfl ?_
                        refine gIinc X97 hx (v := (1 : Int32)) (hb hby d_prog_7_method_12_46) (l' := #[.val (.ref a), .val (.int (0 : Int32)), .val (.int (3 : Int32)), .val (.int c2)]) (pc' := 49) rfl rfl rfl rfl ?_
                        refine gGoto X97 hx (hb hby d_prog_7_method_12_49) (pc' := 4) (by decide) (by decide) ?_
                        refine gLoadIN X97 hx (hb hby d_prog_7_method_12_4) (pc' := 5) rfl rfl ?_
                        refine gLoadAN X97 hx (hb hby d_prog_7_method_12_5) (pc' := 6) rfl rfl rfl ?_
                        refine gCallVJ X97 hx hZ (y := (⟨"java/lang/String", "length", "()I"⟩ : MethodName)) hown e97 (by rw [hml]; rfl) E (hw _ (List.mem_of_getElem? (i := 27) rfl)) (hw _ (List.mem_of_getElem? (i := 28) rfl)) (hw _ (List.mem_of_getElem? (i := 30) rfl)) (hw _ (List.mem_of_getElem? (i := 29) rfl)) (hw _ (List.mem_of_getElem? (i := 4) rfl)) (hw _ (List.mem_of_getElem? (i := 31) rfl)) (by decide) (argsL := []) (st := [(.int (3 : Int32))]) (c_length_4 l Z a0 hw a t ck c0 c1 c2 c3 h0 hCpt E C V A hc0 hc1 hc2 hc3) (lenOf pd_1 rfl) (hb hby d_prog_7_method_12_6) (pc' := 9) rfl rfl rfl rfl (by decide) (W := 1) (Nat.le_of_eq rfl) (by decide) (by decide) (by decide) ?_
                        intro T98 X98 e98
                        refine gIcmpGe X98 hx (hb hby d_prog_7_method_12_9) (pc' := 52) (by decide) (by decide) (pn := 12) rfl (fun (c9''' : (4 : Int) ≤ (3 : Int)) => ?_) (fun (c9''' : (3 : Int) < (4 : Int)) => ?_)
                        · exact absurd c9''' (by decide)
                        · refine gLoadAN X98 hx (hb hby d_prog_7_method_12_12) (pc' := 13) rfl rfl rfl ?_
                          refine gLoadIN X98 hx (hb hby d_prog_7_method_12_13) (pc' := 14) rfl rfl ?_
                          refine gCallVJ X98 hx hZ (y := (⟨"java/lang/String", "charAt", "(I)C"⟩ : MethodName)) hown e98 (by rw [hml]; rfl) E (hw _ (List.mem_of_getElem? (i := 52) rfl)) (hw _ (List.mem_of_getElem? (i := 53) rfl)) (hw _ (List.mem_of_getElem? (i := 55) rfl)) (hw _ (List.mem_of_getElem? (i := 54) rfl)) (hw _ (List.mem_of_getElem? (i := 4) rfl)) (hw _ (List.mem_of_getElem? (i := 56) rfl)) (by decide) (argsL := [(.int (3 : Int32))]) (st := []) (c_charAt_3_4 l Z a0 hw a t ck c0 c1 c2 c3 h0 hSio hCpt E C V A hc0 hc1 hc2 hc3) (lenOf pd_5 rfl) (hb hby d_prog_7_method_12_14) (pc' := 17) rfl rfl rfl rfl (by decide) (W := 0) (Nat.le_of_eq rfl) (by decide) (by decide) (by decide) ?_
                          intro T99 X99 e99
                          refine gStoreIN X99 hx (hb hby d_prog_7_method_12_17) (l' := #[.val (.ref a), .val (.int (0 : Int32)), .val (.int (3 : Int32)), .val (.int c3)]) (pc' := 18) rfl rfl ?_
                          refine gLoadIN X99 hx (hb hby d_prog_7_method_12_18) (pc' := 19) rfl rfl ?_
                          refine gIfEqT X99 hx (hb hby d_prog_7_method_12_19) (pc' := 44) (by decide) (by decide) (pn := 22) rfl (fun (c19''' : (0 : Int) = (0 : Int)) => ?_) (fun (c19''' : ¬ (0 : Int) = (0 : Int)) => ?_)
                          · refine gIconst X99 hx (v := (0 : Int32)) (hb hby d_prog_7_method_12_44) (pc' := 45) rfl rfl ?_
                            refine gStoreIN X99 hx (hb hby d_prog_7_method_12_45) (l' := #[.val (.ref a), .val (.int (0 : Int32)), .val (.int (3 : Int32)), .val (.int c3)]) (pc' := 46) rfl rfl ?_
                            refine gIinc X99 hx (v := (1 : Int32)) (hb hby d_prog_7_method_12_46) (l' := #[.val (.ref a), .val (.int (0 : Int32)), .val (.int (4 : Int32)), .val (.int c3)]) (pc' := 49) rfl rfl rfl rfl ?_
                            refine gGoto X99 hx (hb hby d_prog_7_method_12_49) (pc' := 4) (by decide) (by decide) ?_
                            refine gLoadIN X99 hx (hb hby d_prog_7_method_12_4) (pc' := 5) rfl rfl ?_
                            refine gLoadAN X99 hx (hb hby d_prog_7_method_12_5) (pc' := 6) rfl rfl rfl ?_
                            refine gCallVJ X99 hx hZ (y := (⟨"java/lang/String", "length", "()I"⟩ : MethodName)) hown e99 (by rw [hml]; rfl) E (hw _ (List.mem_of_getElem? (i := 27) rfl)) (hw _ (List.mem_of_getElem? (i := 28) rfl)) (hw _ (List.mem_of_getElem? (i := 30) rfl)) (hw _ (List.mem_of_getElem? (i := 29) rfl)) (hw _ (List.mem_of_getElem? (i := 4) rfl)) (hw _ (List.mem_of_getElem? (i := 31) rfl)) (by decide) (argsL := []) (st := [(.int (4 : Int32))]) (c_length_4 l Z a0 hw a t ck c0 c1 c2 c3 h0 hCpt E C V A hc0 hc1 hc2 hc3) (lenOf pd_1 rfl) (hb hby d_prog_7_method_12_6) (pc' := 9) rfl rfl rfl rfl (by decide) (W := 1) (Nat.le_of_eq rfl) (by decide) (by decide) (by decide) ?_
                            intro T100 X100 e100
                            refine gIcmpGe X100 hx (hb hby d_prog_7_method_12_9) (pc' := 52) (by decide) (by decide) (pn := 12) rfl (fun (c9'''' : (4 : Int) ≤ (4 : Int)) => ?_) (fun (c9'''' : (4 : Int) < (4 : Int)) => ?_)
                            · refine gLoadIN X100 hx (hb hby d_prog_7_method_12_52) (pc' := 53) rfl rfl ?_
                              exact gRetN X100 hx hlk hret (by simp) (hb hby d_prog_7_method_12_53) (w := (0 : Int32)) rfl (by decide) (by decide) (just_f (by omega) e100)
                            · exact absurd c9'''' (by decide)
                          · exact absurd c19''' (by decide)
                      · exact absurd c19'' (by decide)
                  · refine gLoadIN X70 hx (hb hby d_prog_7_method_12_34) (pc' := 35) rfl rfl ?_
                    refine gBipush X70 hx (v := (127 : Int32)) (hb hby d_prog_7_method_12_35) (pc' := 37) rfl rfl ?_
                    refine gIcmpEqT X70 hx (hb hby d_prog_7_method_12_37) (pc' := 44) (by decide) (by decide) (pn := 40) rfl (fun (c37' : c1.toInt = (127 : Int)) => ?_) (fun (c37' : ¬ c1.toInt = (127 : Int)) => ?_)
                    · exact absurd c37' (by omega)
                    · refine gIconst X70 hx (v := (1 : Int32)) (hb hby d_prog_7_method_12_40) (pc' := 41) rfl rfl ?_
                      refine gGoto X70 hx (hb hby d_prog_7_method_12_41) (pc' := 45) (by decide) (by decide) ?_
                      refine gStoreIN X70 hx (hb hby d_prog_7_method_12_45) (l' := #[.val (.ref a), .val (.int (1 : Int32)), .val (.int (1 : Int32)), .val (.int c1)]) (pc' := 46) rfl rfl ?_
                      refine gIinc X70 hx (v := (1 : Int32)) (hb hby d_prog_7_method_12_46) (l' := #[.val (.ref a), .val (.int (1 : Int32)), .val (.int (2 : Int32)), .val (.int c1)]) (pc' := 49) rfl rfl rfl rfl ?_
                      refine gGoto X70 hx (hb hby d_prog_7_method_12_49) (pc' := 4) (by decide) (by decide) ?_
                      refine gLoadIN X70 hx (hb hby d_prog_7_method_12_4) (pc' := 5) rfl rfl ?_
                      refine gLoadAN X70 hx (hb hby d_prog_7_method_12_5) (pc' := 6) rfl rfl rfl ?_
                      refine gCallVJ X70 hx hZ (y := (⟨"java/lang/String", "length", "()I"⟩ : MethodName)) hown e70 (by rw [hml]; rfl) E (hw _ (List.mem_of_getElem? (i := 27) rfl)) (hw _ (List.mem_of_getElem? (i := 28) rfl)) (hw _ (List.mem_of_getElem? (i := 30) rfl)) (hw _ (List.mem_of_getElem? (i := 29) rfl)) (hw _ (List.mem_of_getElem? (i := 4) rfl)) (hw _ (List.mem_of_getElem? (i := 31) rfl)) (by decide) (argsL := []) (st := [(.int (2 : Int32))]) (c_length_4 l Z a0 hw a t ck c0 c1 c2 c3 h0 hCpt E C V A hc0 hc1 hc2 hc3) (lenOf pd_1 rfl) (hb hby d_prog_7_method_12_6) (pc' := 9) rfl rfl rfl rfl (by decide) (W := 1) (Nat.le_of_eq rfl) (by decide) (by decide) (by decide) ?_
                      intro T101 X101 e101
                      refine gIcmpGe X101 hx (hb hby d_prog_7_method_12_9) (pc' := 52) (by decide) (by decide) (pn := 12) rfl (fun (c9'' : (4 : Int) ≤ (2 : Int)) => ?_) (fun (c9'' : (2 : Int) < (4 : Int)) => ?_)
                      · exact absurd c9'' (by decide)
                      · refine gLoadAN X101 hx (hb hby d_prog_7_method_12_12) (pc' := 13) rfl rfl rfl ?_
                        refine gLoadIN X101 hx (hb hby d_prog_7_method_12_13) (pc' := 14) rfl rfl ?_
                        refine gCallVJ X101 hx hZ (y := (⟨"java/lang/String", "charAt", "(I)C"⟩ : MethodName)) hown e101 (by rw [hml]; rfl) E (hw _ (List.mem_of_getElem? (i := 52) rfl)) (hw _ (List.mem_of_getElem? (i := 53) rfl)) (hw _ (List.mem_of_getElem? (i := 55) rfl)) (hw _ (List.mem_of_getElem? (i := 54) rfl)) (hw _ (List.mem_of_getElem? (i := 4) rfl)) (hw _ (List.mem_of_getElem? (i := 56) rfl)) (by decide) (argsL := [(.int (2 : Int32))]) (st := []) (c_charAt_2_4 l Z a0 hw a t ck c0 c1 c2 c3 h0 hSio hCpt E C V A hc0 hc1 hc2 hc3) (lenOf pd_5 rfl) (hb hby d_prog_7_method_12_14) (pc' := 17) rfl rfl rfl rfl (by decide) (W := 0) (Nat.le_of_eq rfl) (by decide) (by decide) (by decide) ?_
                        intro T102 X102 e102
                        refine gStoreIN X102 hx (hb hby d_prog_7_method_12_17) (l' := #[.val (.ref a), .val (.int (1 : Int32)), .val (.int (2 : Int32)), .val (.int c2)]) (pc' := 18) rfl rfl ?_
                        refine gLoadIN X102 hx (hb hby d_prog_7_method_12_18) (pc' := 19) rfl rfl ?_
                        refine gIfEqT X102 hx (hb hby d_prog_7_method_12_19) (pc' := 44) (by decide) (by decide) (pn := 22) rfl (fun (c19'' : (1 : Int) = (0 : Int)) => ?_) (fun (c19'' : ¬ (1 : Int) = (0 : Int)) => ?_)
                        · exact absurd c19'' (by decide)
                        · refine gLoadIN X102 hx (hb hby d_prog_7_method_12_22) (pc' := 23) rfl rfl ?_
                          refine gBipush X102 hx (v := (32 : Int32)) (hb hby d_prog_7_method_12_23) (pc' := 25) rfl rfl ?_
                          refine gIcmpGe X102 hx (hb hby d_prog_7_method_12_25) (pc' := 34) (by decide) (by decide) (pn := 28) rfl (fun (c25'' : (32 : Int) ≤ c2.toInt) => ?_) (fun (c25'' : c2.toInt < (32 : Int)) => ?_)
                          · refine gLoadIN X102 hx (hb hby d_prog_7_method_12_34) (pc' := 35) rfl rfl ?_
                            refine gBipush X102 hx (v := (127 : Int32)) (hb hby d_prog_7_method_12_35) (pc' := 37) rfl rfl ?_
                            refine gIcmpEqT X102 hx (hb hby d_prog_7_method_12_37) (pc' := 44) (by decide) (by decide) (pn := 40) rfl (fun (c37'' : c2.toInt = (127 : Int)) => ?_) (fun (c37'' : ¬ c2.toInt = (127 : Int)) => ?_)
                            · refine gIconst X102 hx (v := (0 : Int32)) (hb hby d_prog_7_method_12_44) (pc' := 45) rfl rfl ?_
                              refine gStoreIN X102 hx (hb hby d_prog_7_method_12_45) (l' := #[.val (.ref a), .val (.int (0 : Int32)), .val (.int (2 : Int32)), .val (.int c2)]) (pc' := 46) rfl rfl ?_
                              refine gIinc X102 hx (v := (1 : Int32)) (hb hby d_prog_7_method_12_46) (l' := #[.val (.ref a), .val (.int (0 : Int32)), .val (.int (3 : Int32)), .val (.int c2)]) (pc' := 49) rfl rfl rfl rfl ?_
                              refine gGoto X102 hx (hb hby d_prog_7_method_12_49) (pc' := 4) (by decide) (by decide) ?_
                              refine gLoadIN X102 hx (hb hby d_prog_7_method_12_4) (pc' := 5) rfl rfl ?_
                              refine gLoadAN X102 hx (hb hby d_prog_7_method_12_5) (pc' := 6) rfl rfl rfl ?_
                              refine gCallVJ X102 hx hZ (y := (⟨"java/lang/String", "length", "()I"⟩ : MethodName)) hown e102 (by rw [hml]; rfl) E (hw _ (List.mem_of_getElem? (i := 27) rfl)) (hw _ (List.mem_of_getElem? (i := 28) rfl)) (hw _ (List.mem_of_getElem? (i := 30) rfl)) (hw _ (List.mem_of_getElem? (i := 29) rfl)) (hw _ (List.mem_of_getElem? (i := 4) rfl)) (hw _ (List.mem_of_getElem? (i := 31) rfl)) (by decide) (argsL := []) (st := [(.int (3 : Int32))]) (c_length_4 l Z a0 hw a t ck c0 c1 c2 c3 h0 hCpt E C V A hc0 hc1 hc2 hc3) (lenOf pd_1 rfl) (hb hby d_prog_7_method_12_6) (pc' := 9) rfl rfl rfl rfl (by decide) (W := 1) (Nat.le_of_eq rfl) (by decide) (by decide) (by decide) ?_
                              intro T103 X103 e103
                              refine gIcmpGe X103 hx (hb hby d_prog_7_method_12_9) (pc' := 52) (by decide) (by decide) (pn := 12) rfl (fun (c9''' : (4 : Int) ≤ (3 : Int)) => ?_) (fun (c9''' : (3 : Int) < (4 : Int)) => ?_)
                              · exact absurd c9''' (by decide)
                              · refine gLoadAN X103 hx (hb hby d_prog_7_method_12_12) (pc' := 13) rfl rfl rfl ?_
                                refine gLoadIN X103 hx (hb hby d_prog_7_method_12_13) (pc' := 14) rfl rfl ?_
                                refine gCallVJ X103 hx hZ (y := (⟨"java/lang/String", "charAt", "(I)C"⟩ : MethodName)) hown e103 (by rw [hml]; rfl) E (hw _ (List.mem_of_getElem? (i := 52) rfl)) (hw _ (List.mem_of_getElem? (i := 53) rfl)) (hw _ (List.mem_of_getElem? (i := 55) rfl)) (hw _ (List.mem_of_getElem? (i := 54) rfl)) (hw _ (List.mem_of_getElem? (i := 4) rfl)) (hw _ (List.mem_of_getElem? (i := 56) rfl)) (by decide) (argsL := [(.int (3 : Int32))]) (st := []) (c_charAt_3_4 l Z a0 hw a t ck c0 c1 c2 c3 h0 hSio hCpt E C V A hc0 hc1 hc2 hc3) (lenOf pd_5 rfl) (hb hby d_prog_7_method_12_14) (pc' := 17) rfl rfl rfl rfl (by decide) (W := 0) (Nat.le_of_eq rfl) (by decide) (by decide) (by decide) ?_
                                intro T104 X104 e104
                                refine gStoreIN X104 hx (hb hby d_prog_7_method_12_17) (l' := #[.val (.ref a), .val (.int (0 : Int32)), .val (.int (3 : Int32)), .val (.int c3)]) (pc' := 18) rfl rfl ?_
                                refine gLoadIN X104 hx (hb hby d_prog_7_method_12_18) (pc' := 19) rfl rfl ?_
                                refine gIfEqT X104 hx (hb hby d_prog_7_method_12_19) (pc' := 44) (by decide) (by decide) (pn := 22) rfl (fun (c19''' : (0 : Int) = (0 : Int)) => ?_) (fun (c19''' : ¬ (0 : Int) = (0 : Int)) => ?_)
                                · refine gIconst X104 hx (v := (0 : Int32)) (hb hby d_prog_7_method_12_44) (pc' := 45) rfl rfl ?_
                                  refine gStoreIN X104 hx (hb hby d_prog_7_method_12_45) (l' := #[.val (.ref a), .val (.int (0 : Int32)), .val (.int (3 : Int32)), .val (.int c3)]) (pc' := 46) rfl rfl ?_
                                  refine gIinc X104 hx (v := (1 : Int32)) (hb hby d_prog_7_method_12_46) (l' := #[.val (.ref a), .val (.int (0 : Int32)), .val (.int (4 : Int32)), .val (.int c3)]) (pc' := 49) rfl rfl rfl rfl ?_
                                  refine gGoto X104 hx (hb hby d_prog_7_method_12_49) (pc' := 4) (by decide) (by decide) ?_
                                  refine gLoadIN X104 hx (hb hby d_prog_7_method_12_4) (pc' := 5) rfl rfl ?_
                                  refine gLoadAN X104 hx (hb hby d_prog_7_method_12_5) (pc' := 6) rfl rfl rfl ?_
                                  refine gCallVJ X104 hx hZ (y := (⟨"java/lang/String", "length", "()I"⟩ : MethodName)) hown e104 (by rw [hml]; rfl) E (hw _ (List.mem_of_getElem? (i := 27) rfl)) (hw _ (List.mem_of_getElem? (i := 28) rfl)) (hw _ (List.mem_of_getElem? (i := 30) rfl)) (hw _ (List.mem_of_getElem? (i := 29) rfl)) (hw _ (List.mem_of_getElem? (i := 4) rfl)) (hw _ (List.mem_of_getElem? (i := 31) rfl)) (by decide) (argsL := []) (st := [(.int (4 : Int32))]) (c_length_4 l Z a0 hw a t ck c0 c1 c2 c3 h0 hCpt E C V A hc0 hc1 hc2 hc3) (lenOf pd_1 rfl) (hb hby d_prog_7_method_12_6) (pc' := 9) rfl rfl rfl rfl (by decide) (W := 1) (Nat.le_of_eq rfl) (by decide) (by decide) (by decide) ?_
                                  intro T105 X105 e105
                                  refine gIcmpGe X105 hx (hb hby d_prog_7_method_12_9) (pc' := 52) (by decide) (by decide) (pn := 12) rfl (fun (c9'''' : (4 : Int) ≤ (4 : Int)) => ?_) (fun (c9'''' : (4 : Int) < (4 : Int)) => ?_)
                                  · refine gLoadIN X105 hx (hb hby d_prog_7_method_12_52) (pc' := 53) rfl rfl ?_
                                    exact gRetN X105 hx hlk hret (by simp) (hb hby d_prog_7_method_12_53) (w := (0 : Int32)) rfl (by decide) (by decide) (just_f (by omega) e105)
                                  · exact absurd c9'''' (by decide)
                                · exact absurd c19''' (by decide)
                            · refine gIconst X102 hx (v := (1 : Int32)) (hb hby d_prog_7_method_12_40) (pc' := 41) rfl rfl ?_
                              refine gGoto X102 hx (hb hby d_prog_7_method_12_41) (pc' := 45) (by decide) (by decide) ?_
                              refine gStoreIN X102 hx (hb hby d_prog_7_method_12_45) (l' := #[.val (.ref a), .val (.int (1 : Int32)), .val (.int (2 : Int32)), .val (.int c2)]) (pc' := 46) rfl rfl ?_
                              refine gIinc X102 hx (v := (1 : Int32)) (hb hby d_prog_7_method_12_46) (l' := #[.val (.ref a), .val (.int (1 : Int32)), .val (.int (3 : Int32)), .val (.int c2)]) (pc' := 49) rfl rfl rfl rfl ?_
                              refine gGoto X102 hx (hb hby d_prog_7_method_12_49) (pc' := 4) (by decide) (by decide) ?_
                              refine gLoadIN X102 hx (hb hby d_prog_7_method_12_4) (pc' := 5) rfl rfl ?_
                              refine gLoadAN X102 hx (hb hby d_prog_7_method_12_5) (pc' := 6) rfl rfl rfl ?_
                              refine gCallVJ X102 hx hZ (y := (⟨"java/lang/String", "length", "()I"⟩ : MethodName)) hown e102 (by rw [hml]; rfl) E (hw _ (List.mem_of_getElem? (i := 27) rfl)) (hw _ (List.mem_of_getElem? (i := 28) rfl)) (hw _ (List.mem_of_getElem? (i := 30) rfl)) (hw _ (List.mem_of_getElem? (i := 29) rfl)) (hw _ (List.mem_of_getElem? (i := 4) rfl)) (hw _ (List.mem_of_getElem? (i := 31) rfl)) (by decide) (argsL := []) (st := [(.int (3 : Int32))]) (c_length_4 l Z a0 hw a t ck c0 c1 c2 c3 h0 hCpt E C V A hc0 hc1 hc2 hc3) (lenOf pd_1 rfl) (hb hby d_prog_7_method_12_6) (pc' := 9) rfl rfl rfl rfl (by decide) (W := 1) (Nat.le_of_eq rfl) (by decide) (by decide) (by decide) ?_
                              intro T106 X106 e106
                              refine gIcmpGe X106 hx (hb hby d_prog_7_method_12_9) (pc' := 52) (by decide) (by decide) (pn := 12) rfl (fun (c9''' : (4 : Int) ≤ (3 : Int)) => ?_) (fun (c9''' : (3 : Int) < (4 : Int)) => ?_)
                              · exact absurd c9''' (by decide)
                              · refine gLoadAN X106 hx (hb hby d_prog_7_method_12_12) (pc' := 13) rfl rfl rfl ?_
                                refine gLoadIN X106 hx (hb hby d_prog_7_method_12_13) (pc' := 14) rfl rfl ?_
                                refine gCallVJ X106 hx hZ (y := (⟨"java/lang/String", "charAt", "(I)C"⟩ : MethodName)) hown e106 (by rw [hml]; rfl) E (hw _ (List.mem_of_getElem? (i := 52) rfl)) (hw _ (List.mem_of_getElem? (i := 53) rfl)) (hw _ (List.mem_of_getElem? (i := 55) rfl)) (hw _ (List.mem_of_getElem? (i := 54) rfl)) (hw _ (List.mem_of_getElem? (i := 4) rfl)) (hw _ (List.mem_of_getElem? (i := 56) rfl)) (by decide) (argsL := [(.int (3 : Int32))]) (st := []) (c_charAt_3_4 l Z a0 hw a t ck c0 c1 c2 c3 h0 hSio hCpt E C V A hc0 hc1 hc2 hc3) (lenOf pd_5 rfl) (hb hby d_prog_7_method_12_14) (pc' := 17) rfl rfl rfl rfl (by decide) (W := 0) (Nat.le_of_eq rfl) (by decide) (by decide) (by decide) ?_
                                intro T107 X107 e107
                                refine gStoreIN X107 hx (hb hby d_prog_7_method_12_17) (l' := #[.val (.ref a), .val (.int (1 : Int32)), .val (.int (3 : Int32)), .val (.int c3)]) (pc' := 18) rfl rfl ?_
                                refine gLoadIN X107 hx (hb hby d_prog_7_method_12_18) (pc' := 19) rfl rfl ?_
                                refine gIfEqT X107 hx (hb hby d_prog_7_method_12_19) (pc' := 44) (by decide) (by decide) (pn := 22) rfl (fun (c19''' : (1 : Int) = (0 : Int)) => ?_) (fun (c19''' : ¬ (1 : Int) = (0 : Int)) => ?_)
                                · exact absurd c19''' (by decide)
                                · refine gLoadIN X107 hx (hb hby d_prog_7_method_12_22) (pc' := 23) rfl rfl ?_
                                  refine gBipush X107 hx (v := (32 : Int32)) (hb hby d_prog_7_method_12_23) (pc' := 25) rfl rfl ?_
                                  refine gIcmpGe X107 hx (hb hby d_prog_7_method_12_25) (pc' := 34) (by decide) (by decide) (pn := 28) rfl (fun (c25''' : (32 : Int) ≤ c3.toInt) => ?_) (fun (c25''' : c3.toInt < (32 : Int)) => ?_)
                                  · refine gLoadIN X107 hx (hb hby d_prog_7_method_12_34) (pc' := 35) rfl rfl ?_
                                    refine gBipush X107 hx (v := (127 : Int32)) (hb hby d_prog_7_method_12_35) (pc' := 37) rfl rfl ?_
                                    refine gIcmpEqT X107 hx (hb hby d_prog_7_method_12_37) (pc' := 44) (by decide) (by decide) (pn := 40) rfl (fun (c37''' : c3.toInt = (127 : Int)) => ?_) (fun (c37''' : ¬ c3.toInt = (127 : Int)) => ?_)
                                    · refine gIconst X107 hx (v := (0 : Int32)) (hb hby d_prog_7_method_12_44) (pc' := 45) rfl rfl ?_
                                      refine gStoreIN X107 hx (hb hby d_prog_7_method_12_45) (l' := #[.val (.ref a), .val (.int (0 : Int32)), .val (.int (3 : Int32)), .val (.int c3)]) (pc' := 46) rfl rfl ?_
                                      refine gIinc X107 hx (v := (1 : Int32)) (hb hby d_prog_7_method_12_46) (l' := #[.val (.ref a), .val (.int (0 : Int32)), .val (.int (4 : Int32)), .val (.int c3)]) (pc' := 49) rfl rfl rfl rfl ?_
                                      refine gGoto X107 hx (hb hby d_prog_7_method_12_49) (pc' := 4) (by decide) (by decide) ?_
                                      refine gLoadIN X107 hx (hb hby d_prog_7_method_12_4) (pc' := 5) rfl rfl ?_
                                      refine gLoadAN X107 hx (hb hby d_prog_7_method_12_5) (pc' := 6) rfl rfl rfl ?_
                                      refine gCallVJ X107 hx hZ (y := (⟨"java/lang/String", "length", "()I"⟩ : MethodName)) hown e107 (by rw [hml]; rfl) E (hw _ (List.mem_of_getElem? (i := 27) rfl)) (hw _ (List.mem_of_getElem? (i := 28) rfl)) (hw _ (List.mem_of_getElem? (i := 30) rfl)) (hw _ (List.mem_of_getElem? (i := 29) rfl)) (hw _ (List.mem_of_getElem? (i := 4) rfl)) (hw _ (List.mem_of_getElem? (i := 31) rfl)) (by decide) (argsL := []) (st := [(.int (4 : Int32))]) (c_length_4 l Z a0 hw a t ck c0 c1 c2 c3 h0 hCpt E C V A hc0 hc1 hc2 hc3) (lenOf pd_1 rfl) (hb hby d_prog_7_method_12_6) (pc' := 9) rfl rfl rfl rfl (by decide) (W := 1) (Nat.le_of_eq rfl) (by decide) (by decide) (by decide) ?_
                                      intro T108 X108 e108
                                      refine gIcmpGe X108 hx (hb hby d_prog_7_method_12_9) (pc' := 52) (by decide) (by decide) (pn := 12) rfl (fun (c9'''' : (4 : Int) ≤ (4 : Int)) => ?_) (fun (c9'''' : (4 : Int) < (4 : Int)) => ?_)
                                      · refine gLoadIN X108 hx (hb hby d_prog_7_method_12_52) (pc' := 53) rfl rfl ?_
                                        exact gRetN X108 hx hlk hret (by simp) (hb hby d_prog_7_method_12_53) (w := (0 : Int32)) rfl (by decide) (by decide) (just_f (by omega) e108)
                                      · exact absurd c9'''' (by decide)
                                    · refine gIconst X107 hx (v := (1 : Int32)) (hb hby d_prog_7_method_12_40) (pc' := 41) rfl rfl ?_
                                      refine gGoto X107 hx (hb hby d_prog_7_method_12_41) (pc' := 45) (by decide) (by decide) ?_
                                      refine gStoreIN X107 hx (hb hby d_prog_7_method_12_45) (l' := #[.val (.ref a), .val (.int (1 : Int32)), .val (.int (3 : Int32)), .val (.int c3)]) (pc' := 46) rfl rfl ?_
                                      refine gIinc X107 hx (v := (1 : Int32)) (hb hby d_prog_7_method_12_46) (l' := #[.val (.ref a), .val (.int (1 : Int32)), .val (.int (4 : Int32)), .val (.int c3)]) (pc' := 49) rfl rfl rfl rfl ?_
                                      refine gGoto X107 hx (hb hby d_prog_7_method_12_49) (pc' := 4) (by decide) (by decide) ?_
                                      refine gLoadIN X107 hx (hb hby d_prog_7_method_12_4) (pc' := 5) rfl rfl ?_
                                      refine gLoadAN X107 hx (hb hby d_prog_7_method_12_5) (pc' := 6) rfl rfl rfl ?_
                                      refine gCallVJ X107 hx hZ (y := (⟨"java/lang/String", "length", "()I"⟩ : MethodName)) hown e107 (by rw [hml]; rfl) E (hw _ (List.mem_of_getElem? (i := 27) rfl)) (hw _ (List.mem_of_getElem? (i := 28) rfl)) (hw _ (List.mem_of_getElem? (i := 30) rfl)) (hw _ (List.mem_of_getElem? (i := 29) rfl)) (hw _ (List.mem_of_getElem? (i := 4) rfl)) (hw _ (List.mem_of_getElem? (i := 31) rfl)) (by decide) (argsL := []) (st := [(.int (4 : Int32))]) (c_length_4 l Z a0 hw a t ck c0 c1 c2 c3 h0 hCpt E C V A hc0 hc1 hc2 hc3) (lenOf pd_1 rfl) (hb hby d_prog_7_method_12_6) (pc' := 9) rfl rfl rfl rfl (by decide) (W := 1) (Nat.le_of_eq rfl) (by decide) (by decide) (by decide) ?_
                                      intro T109 X109 e109
                                      refine gIcmpGe X109 hx (hb hby d_prog_7_method_12_9) (pc' := 52) (by decide) (by decide) (pn := 12) rfl (fun (c9'''' : (4 : Int) ≤ (4 : Int)) => ?_) (fun (c9'''' : (4 : Int) < (4 : Int)) => ?_)
                                      · refine gLoadIN X109 hx (hb hby d_prog_7_method_12_52) (pc' := 53) rfl rfl ?_
                                        exact gRetN X109 hx hlk hret (by simp) (hb hby d_prog_7_method_12_53) (w := (1 : Int32)) rfl (by decide) (by decide) (just_t (by omega) e109)
                                      · exact absurd c9'''' (by decide)
                                  · refine gLoadIN X107 hx (hb hby d_prog_7_method_12_28) (pc' := 29) rfl rfl ?_
                                    refine gBipush X107 hx (v := (9 : Int32)) (hb hby d_prog_7_method_12_29) (pc' := 31) rfl rfl ?_
                                    refine gIcmpNeT X107 hx (hb hby d_prog_7_method_12_31) (pc' := 44) (by decide) (by decide) (pn := 34) rfl (fun (c31'' : ¬ c3.toInt = (9 : Int)) => ?_) (fun (c31'' : c3.toInt = (9 : Int)) => ?_)
                                    · refine gIconst X107 hx (v := (0 : Int32)) (hb hby d_prog_7_method_12_44) (pc' := 45) rfl rfl ?_
                                      refine gStoreIN X107 hx (hb hby d_prog_7_method_12_45) (l' := #[.val (.ref a), .val (.int (0 : Int32)), .val (.int (3 : Int32)), .val (.int c3)]) (pc' := 46) rfl rfl ?_
                                      refine gIinc X107 hx (v := (1 : Int32)) (hb hby d_prog_7_method_12_46) (l' := #[.val (.ref a), .val (.int (0 : Int32)), .val (.int (4 : Int32)), .val (.int c3)]) (pc' := 49) rfl rfl rfl rfl ?_
                                      refine gGoto X107 hx (hb hby d_prog_7_method_12_49) (pc' := 4) (by decide) (by decide) ?_
                                      refine gLoadIN X107 hx (hb hby d_prog_7_method_12_4) (pc' := 5) rfl rfl ?_
                                      refine gLoadAN X107 hx (hb hby d_prog_7_method_12_5) (pc' := 6) rfl rfl rfl ?_
                                      refine gCallVJ X107 hx hZ (y := (⟨"java/lang/String", "length", "()I"⟩ : MethodName)) hown e107 (by rw [hml]; rfl) E (hw _ (List.mem_of_getElem? (i := 27) rfl)) (hw _ (List.mem_of_getElem? (i := 28) rfl)) (hw _ (List.mem_of_getElem? (i := 30) rfl)) (hw _ (List.mem_of_getElem? (i := 29) rfl)) (hw _ (List.mem_of_getElem? (i := 4) rfl)) (hw _ (List.mem_of_getElem? (i := 31) rfl)) (by decide) (argsL := []) (st := [(.int (4 : Int32))]) (c_length_4 l Z a0 hw a t ck c0 c1 c2 c3 h0 hCpt E C V A hc0 hc1 hc2 hc3) (lenOf pd_1 rfl) (hb hby d_prog_7_method_12_6) (pc' := 9) rfl rfl rfl rfl (by decide) (W := 1) (Nat.le_of_eq rfl) (by decide) (by decide) (by decide) ?_
                                      intro T110 X110 e110
                                      refine gIcmpGe X110 hx (hb hby d_prog_7_method_12_9) (pc' := 52) (by decide) (by decide) (pn := 12) rfl (fun (c9'''' : (4 : Int) ≤ (4 : Int)) => ?_) (fun (c9'''' : (4 : Int) < (4 : Int)) => ?_)
                                      · refine gLoadIN X110 hx (hb hby d_prog_7_method_12_52) (pc' := 53) rfl rfl ?_
                                        exact gRetN X110 hx hlk hret (by simp) (hb hby d_prog_7_method_12_53) (w := (0 : Int32)) rfl (by decide) (by decide) (just_f (by omega) e110)
                                      · exact absurd c9'''' (by decide)
                                    · refine gLoadIN X107 hx (hb hby d_prog_7_method_12_34) (pc' := 35) rfl rfl ?_
                                      refine gBipush X107 hx (v := (127 : Int32)) (hb hby d_prog_7_method_12_35) (pc' := 37) rfl rfl ?_
                                      refine gIcmpEqT X107 hx (hb hby d_prog_7_method_12_37) (pc' := 44) (by decide) (by decide) (pn := 40) rfl (fun (c37''' : c3.toInt = (127 : Int)) => ?_) (fun (c37''' : ¬ c3.toInt = (127 : Int)) => ?_)
                                      · exact absurd c37''' (by omega)
                                      · refine gIconst X107 hx (v := (1 : Int32)) (hb hby d_prog_7_method_12_40) (pc' := 41) rfl rfl ?_
                                        refine gGoto X107 hx (hb hby d_prog_7_method_12_41) (pc' := 45) (by decide) (by decide) ?_
                                        refine gStoreIN X107 hx (hb hby d_prog_7_method_12_45) (l' := #[.val (.ref a), .val (.int (1 : Int32)), .val (.int (3 : Int32)), .val (.int c3)]) (pc' := 46) rfl rfl ?_
                                        refine gIinc X107 hx (v := (1 : Int32)) (hb hby d_prog_7_method_12_46) (l' := #[.val (.ref a), .val (.int (1 : Int32)), .val (.int (4 : Int32)), .val (.int c3)]) (pc' := 49) rfl rfl rfl rfl ?_
                                        refine gGoto X107 hx (hb hby d_prog_7_method_12_49) (pc' := 4) (by decide) (by decide) ?_
                                        refine gLoadIN X107 hx (hb hby d_prog_7_method_12_4) (pc' := 5) rfl rfl ?_
                                        refine gLoadAN X107 hx (hb hby d_prog_7_method_12_5) (pc' := 6) rfl rfl rfl ?_
                                        refine gCallVJ X107 hx hZ (y := (⟨"java/lang/String", "length", "()I"⟩ : MethodName)) hown e107 (by rw [hml]; rfl) E (hw _ (List.mem_of_getElem? (i := 27) rfl)) (hw _ (List.mem_of_getElem? (i := 28) rfl)) (hw _ (List.mem_of_getElem? (i := 30) rfl)) (hw _ (List.mem_of_getElem? (i := 29) rfl)) (hw _ (List.mem_of_getElem? (i := 4) rfl)) (hw _ (List.mem_of_getElem? (i := 31) rfl)) (by decide) (argsL := []) (st := [(.int (4 : Int32))]) (c_length_4 l Z a0 hw a t ck c0 c1 c2 c3 h0 hCpt E C V A hc0 hc1 hc2 hc3) (lenOf pd_1 rfl) (hb hby d_prog_7_method_12_6) (pc' := 9) rfl rfl rfl rfl (by decide) (W := 1) (Nat.le_of_eq rfl) (by decide) (by decide) (by decide) ?_
                                        intro T111 X111 e111
                                        refine gIcmpGe X111 hx (hb hby d_prog_7_method_12_9) (pc' := 52) (by decide) (by decide) (pn := 12) rfl (fun (c9'''' : (4 : Int) ≤ (4 : Int)) => ?_) (fun (c9'''' : (4 : Int) < (4 : Int)) => ?_)
                                        · refine gLoadIN X111 hx (hb hby d_prog_7_method_12_52) (pc' := 53) rfl rfl ?_
                                          exact gRetN X111 hx hlk hret (by simp) (hb hby d_prog_7_method_12_53) (w := (1 : Int32)) rfl (by decide) (by decide) (just_t (by omega) e111)
                                        · exact absurd c9'''' (by decide)
                          · refine gLoadIN X102 hx (hb hby d_prog_7_method_12_28) (pc' := 29) rfl rfl ?_
                            refine gBipush X102 hx (v := (9 : Int32)) (hb hby d_prog_7_method_12_29) (pc' := 31) rfl rfl ?_
                            refine gIcmpNeT X102 hx (hb hby d_prog_7_method_12_31) (pc' := 44) (by decide) (by decide) (pn := 34) rfl (fun (c31'' : ¬ c2.toInt = (9 : Int)) => ?_) (fun (c31'' : c2.toInt = (9 : Int)) => ?_)
                            · refine gIconst X102 hx (v := (0 : Int32)) (hb hby d_prog_7_method_12_44) (pc' := 45) rfl rfl ?_
                              refine gStoreIN X102 hx (hb hby d_prog_7_method_12_45) (l' := #[.val (.ref a), .val (.int (0 : Int32)), .val (.int (2 : Int32)), .val (.int c2)]) (pc' := 46) rfl rfl ?_
                              refine gIinc X102 hx (v := (1 : Int32)) (hb hby d_prog_7_method_12_46) (l' := #[.val (.ref a), .val (.int (0 : Int32)), .val (.int (3 : Int32)), .val (.int c2)]) (pc' := 49) rfl rfl rfl rfl ?_
                              refine gGoto X102 hx (hb hby d_prog_7_method_12_49) (pc' := 4) (by decide) (by decide) ?_
                              refine gLoadIN X102 hx (hb hby d_prog_7_method_12_4) (pc' := 5) rfl rfl ?_
                              refine gLoadAN X102 hx (hb hby d_prog_7_method_12_5) (pc' := 6) rfl rfl rfl ?_
                              refine gCallVJ X102 hx hZ (y := (⟨"java/lang/String", "length", "()I"⟩ : MethodName)) hown e102 (by rw [hml]; rfl) E (hw _ (List.mem_of_getElem? (i := 27) rfl)) (hw _ (List.mem_of_getElem? (i := 28) rfl)) (hw _ (List.mem_of_getElem? (i := 30) rfl)) (hw _ (List.mem_of_getElem? (i := 29) rfl)) (hw _ (List.mem_of_getElem? (i := 4) rfl)) (hw _ (List.mem_of_getElem? (i := 31) rfl)) (by decide) (argsL := []) (st := [(.int (3 : Int32))]) (c_length_4 l Z a0 hw a t ck c0 c1 c2 c3 h0 hCpt E C V A hc0 hc1 hc2 hc3) (lenOf pd_1 rfl) (hb hby d_prog_7_method_12_6) (pc' := 9) rfl rfl rfl rfl (by decide) (W := 1) (Nat.le_of_eq rfl) (by decide) (by decide) (by decide) ?_
                              intro T112 X112 e112
                              refine gIcmpGe X112 hx (hb hby d_prog_7_method_12_9) (pc' := 52) (by decide) (by decide) (pn := 12) rfl (fun (c9''' : (4 : Int) ≤ (3 : Int)) => ?_) (fun (c9''' : (3 : Int) < (4 : Int)) => ?_)
                              · exact absurd c9''' (by decide)
                              · refine gLoadAN X112 hx (hb hby d_prog_7_method_12_12) (pc' := 13) rfl rfl rfl ?_
                                refine gLoadIN X112 hx (hb hby d_prog_7_method_12_13) (pc' := 14) rfl rfl ?_
                                refine gCallVJ X112 hx hZ (y := (⟨"java/lang/String", "charAt", "(I)C"⟩ : MethodName)) hown e112 (by rw [hml]; rfl) E (hw _ (List.mem_of_getElem? (i := 52) rfl)) (hw _ (List.mem_of_getElem? (i := 53) rfl)) (hw _ (List.mem_of_getElem? (i := 55) rfl)) (hw _ (List.mem_of_getElem? (i := 54) rfl)) (hw _ (List.mem_of_getElem? (i := 4) rfl)) (hw _ (List.mem_of_getElem? (i := 56) rfl)) (by decide) (argsL := [(.int (3 : Int32))]) (st := []) (c_charAt_3_4 l Z a0 hw a t ck c0 c1 c2 c3 h0 hSio hCpt E C V A hc0 hc1 hc2 hc3) (lenOf pd_5 rfl) (hb hby d_prog_7_method_12_14) (pc' := 17) rfl rfl rfl rfl (by decide) (W := 0) (Nat.le_of_eq rfl) (by decide) (by decide) (by decide) ?_
                                intro T113 X113 e113
                                refine gStoreIN X113 hx (hb hby d_prog_7_method_12_17) (l' := #[.val (.ref a), .val (.int (0 : Int32)), .val (.int (3 : Int32)), .val (.int c3)]) (pc' := 18) rfl rfl ?_
                                refine gLoadIN X113 hx (hb hby d_prog_7_method_12_18) (pc' := 19) rfl rfl ?_
                                refine gIfEqT X113 hx (hb hby d_prog_7_method_12_19) (pc' := 44) (by decide) (by decide) (pn := 22) rfl (fun (c19''' : (0 : Int) = (0 : Int)) => ?_) (fun (c19''' : ¬ (0 : Int) = (0 : Int)) => ?_)
                                · refine gIconst X113 hx (v := (0 : Int32)) (hb hby d_prog_7_method_12_44) (pc' := 45) rfl rfl ?_
                                  refine gStoreIN X113 hx (hb hby d_prog_7_method_12_45) (l' := #[.val (.ref a), .val (.int (0 : Int32)), .val (.int (3 : Int32)), .val (.int c3)]) (pc' := 46) rfl rfl ?_
                                  refine gIinc X113 hx (v := (1 : Int32)) (hb hby d_prog_7_method_12_46) (l' := #[.val (.ref a), .val (.int (0 : Int32)), .val (.int (4 : Int32)), .val (.int c3)]) (pc' := 49) rfl rfl rfl rfl ?_
                                  refine gGoto X113 hx (hb hby d_prog_7_method_12_49) (pc' := 4) (by decide) (by decide) ?_
                                  refine gLoadIN X113 hx (hb hby d_prog_7_method_12_4) (pc' := 5) rfl rfl ?_
                                  refine gLoadAN X113 hx (hb hby d_prog_7_method_12_5) (pc' := 6) rfl rfl rfl ?_
                                  refine gCallVJ X113 hx hZ (y := (⟨"java/lang/String", "length", "()I"⟩ : MethodName)) hown e113 (by rw [hml]; rfl) E (hw _ (List.mem_of_getElem? (i := 27) rfl)) (hw _ (List.mem_of_getElem? (i := 28) rfl)) (hw _ (List.mem_of_getElem? (i := 30) rfl)) (hw _ (List.mem_of_getElem? (i := 29) rfl)) (hw _ (List.mem_of_getElem? (i := 4) rfl)) (hw _ (List.mem_of_getElem? (i := 31) rfl)) (by decide) (argsL := []) (st := [(.int (4 : Int32))]) (c_length_4 l Z a0 hw a t ck c0 c1 c2 c3 h0 hCpt E C V A hc0 hc1 hc2 hc3) (lenOf pd_1 rfl) (hb hby d_prog_7_method_12_6) (pc' := 9) rfl rfl rfl rfl (by decide) (W := 1) (Nat.le_of_eq rfl) (by decide) (by decide) (by decide) ?_
                                  intro T114 X114 e114
                                  refine gIcmpGe X114 hx (hb hby d_prog_7_method_12_9) (pc' := 52) (by decide) (by decide) (pn := 12) rfl (fun (c9'''' : (4 : Int) ≤ (4 : Int)) => ?_) (fun (c9'''' : (4 : Int) < (4 : Int)) => ?_)
                                  · refine gLoadIN X114 hx (hb hby d_prog_7_method_12_52) (pc' := 53) rfl rfl ?_
                                    exact gRetN X114 hx hlk hret (by simp) (hb hby d_prog_7_method_12_53) (w := (0 : Int32)) rfl (by decide) (by decide) (just_f (by omega) e114)
                                  · exact absurd c9'''' (by decide)
                                · exact absurd c19''' (by decide)
                            · refine gLoadIN X102 hx (hb hby d_prog_7_method_12_34) (pc' := 35) rfl rfl ?_
                              refine gBipush X102 hx (v := (127 : Int32)) (hb hby d_prog_7_method_12_35) (pc' := 37) rfl rfl ?_
                              refine gIcmpEqT X102 hx (hb hby d_prog_7_method_12_37) (pc' := 44) (by decide) (by decide) (pn := 40) rfl (fun (c37'' : c2.toInt = (127 : Int)) => ?_) (fun (c37'' : ¬ c2.toInt = (127 : Int)) => ?_)
                              · exact absurd c37'' (by omega)
                              · refine gIconst X102 hx (v := (1 : Int32)) (hb hby d_prog_7_method_12_40) (pc' := 41) rfl rfl ?_
                                refine gGoto X102 hx (hb hby d_prog_7_method_12_41) (pc' := 45) (by decide) (by decide) ?_
                                refine gStoreIN X102 hx (hb hby d_prog_7_method_12_45) (l' := #[.val (.ref a), .val (.int (1 : Int32)), .val (.int (2 : Int32)), .val (.int c2)]) (pc' := 46) rfl rfl ?_
                                refine gIinc X102 hx (v := (1 : Int32)) (hb hby d_prog_7_method_12_46) (l' := #[.val (.ref a), .val (.int (1 : Int32)), .val (.int (3 : Int32)), .val (.int c2)]) (pc' := 49) rfl rfl rfl rfl ?_
                                refine gGoto X102 hx (hb hby d_prog_7_method_12_49) (pc' := 4) (by decide) (by decide) ?_
                                refine gLoadIN X102 hx (hb hby d_prog_7_method_12_4) (pc' := 5) rfl rfl ?_
                                refine gLoadAN X102 hx (hb hby d_prog_7_method_12_5) (pc' := 6) rfl rfl rfl ?_
                                refine gCallVJ X102 hx hZ (y := (⟨"java/lang/String", "length", "()I"⟩ : MethodName)) hown e102 (by rw [hml]; rfl) E (hw _ (List.mem_of_getElem? (i := 27) rfl)) (hw _ (List.mem_of_getElem? (i := 28) rfl)) (hw _ (List.mem_of_getElem? (i := 30) rfl)) (hw _ (List.mem_of_getElem? (i := 29) rfl)) (hw _ (List.mem_of_getElem? (i := 4) rfl)) (hw _ (List.mem_of_getElem? (i := 31) rfl)) (by decide) (argsL := []) (st := [(.int (3 : Int32))]) (c_length_4 l Z a0 hw a t ck c0 c1 c2 c3 h0 hCpt E C V A hc0 hc1 hc2 hc3) (lenOf pd_1 rfl) (hb hby d_prog_7_method_12_6) (pc' := 9) rfl rfl rfl rfl (by decide) (W := 1) (Nat.le_of_eq rfl) (by decide) (by decide) (by decide) ?_
                                intro T115 X115 e115
                                refine gIcmpGe X115 hx (hb hby d_prog_7_method_12_9) (pc' := 52) (by decide) (by decide) (pn := 12) rfl (fun (c9''' : (4 : Int) ≤ (3 : Int)) => ?_) (fun (c9''' : (3 : Int) < (4 : Int)) => ?_)
                                · exact absurd c9''' (by decide)
                                · refine gLoadAN X115 hx (hb hby d_prog_7_method_12_12) (pc' := 13) rfl rfl rfl ?_
                                  refine gLoadIN X115 hx (hb hby d_prog_7_method_12_13) (pc' := 14) rfl rfl ?_
                                  refine gCallVJ X115 hx hZ (y := (⟨"java/lang/String", "charAt", "(I)C"⟩ : MethodName)) hown e115 (by rw [hml]; rfl) E (hw _ (List.mem_of_getElem? (i := 52) rfl)) (hw _ (List.mem_of_getElem? (i := 53) rfl)) (hw _ (List.mem_of_getElem? (i := 55) rfl)) (hw _ (List.mem_of_getElem? (i := 54) rfl)) (hw _ (List.mem_of_getElem? (i := 4) rfl)) (hw _ (List.mem_of_getElem? (i := 56) rfl)) (by decide) (argsL := [(.int (3 : Int32))]) (st := []) (c_charAt_3_4 l Z a0 hw a t ck c0 c1 c2 c3 h0 hSio hCpt E C V A hc0 hc1 hc2 hc3) (lenOf pd_5 rfl) (hb hby d_prog_7_method_12_14) (pc' := 17) rfl rfl rfl rfl (by decide) (W := 0) (Nat.le_of_eq rfl) (by decide) (by decide) (by decide) ?_
                                  intro T116 X116 e116
                                  refine gStoreIN X116 hx (hb hby d_prog_7_method_12_17) (l' := #[.val (.ref a), .val (.int (1 : Int32)), .val (.int (3 : Int32)), .val (.int c3)]) (pc' := 18) rfl rfl ?_
                                  refine gLoadIN X116 hx (hb hby d_prog_7_method_12_18) (pc' := 19) rfl rfl ?_
                                  refine gIfEqT X116 hx (hb hby d_prog_7_method_12_19) (pc' := 44) (by decide) (by decide) (pn := 22) rfl (fun (c19''' : (1 : Int) = (0 : Int)) => ?_) (fun (c19''' : ¬ (1 : Int) = (0 : Int)) => ?_)
                                  · exact absurd c19''' (by decide)
                                  · refine gLoadIN X116 hx (hb hby d_prog_7_method_12_22) (pc' := 23) rfl rfl ?_
                                    refine gBipush X116 hx (v := (32 : Int32)) (hb hby d_prog_7_method_12_23) (pc' := 25) rfl rfl ?_
                                    refine gIcmpGe X116 hx (hb hby d_prog_7_method_12_25) (pc' := 34) (by decide) (by decide) (pn := 28) rfl (fun (c25''' : (32 : Int) ≤ c3.toInt) => ?_) (fun (c25''' : c3.toInt < (32 : Int)) => ?_)
                                    · refine gLoadIN X116 hx (hb hby d_prog_7_method_12_34) (pc' := 35) rfl rfl ?_
                                      refine gBipush X116 hx (v := (127 : Int32)) (hb hby d_prog_7_method_12_35) (pc' := 37) rfl rfl ?_
                                      refine gIcmpEqT X116 hx (hb hby d_prog_7_method_12_37) (pc' := 44) (by decide) (by decide) (pn := 40) rfl (fun (c37''' : c3.toInt = (127 : Int)) => ?_) (fun (c37''' : ¬ c3.toInt = (127 : Int)) => ?_)
                                      · refine gIconst X116 hx (v := (0 : Int32)) (hb hby d_prog_7_method_12_44) (pc' := 45) rfl rfl ?_
                                        refine gStoreIN X116 hx (hb hby d_prog_7_method_12_45) (l' := #[.val (.ref a), .val (.int (0 : Int32)), .val (.int (3 : Int32)), .val (.int c3)]) (pc' := 46) rfl rfl ?_
                                        refine gIinc X116 hx (v := (1 : Int32)) (hb hby d_prog_7_method_12_46) (l' := #[.val (.ref a), .val (.int (0 : Int32)), .val (.int (4 : Int32)), .val (.int c3)]) (pc' := 49) rfl rfl rfl rfl ?_
                                        refine gGoto X116 hx (hb hby d_prog_7_method_12_49) (pc' := 4) (by decide) (by decide) ?_
                                        refine gLoadIN X116 hx (hb hby d_prog_7_method_12_4) (pc' := 5) rfl rfl ?_
                                        refine gLoadAN X116 hx (hb hby d_prog_7_method_12_5) (pc' := 6) rfl rfl rfl ?_
                                        refine gCallVJ X116 hx hZ (y := (⟨"java/lang/String", "length", "()I"⟩ : MethodName)) hown e116 (by rw [hml]; rfl) E (hw _ (List.mem_of_getElem? (i := 27) rfl)) (hw _ (List.mem_of_getElem? (i := 28) rfl)) (hw _ (List.mem_of_getElem? (i := 30) rfl)) (hw _ (List.mem_of_getElem? (i := 29) rfl)) (hw _ (List.mem_of_getElem? (i := 4) rfl)) (hw _ (List.mem_of_getElem? (i := 31) rfl)) (by decide) (argsL := []) (st := [(.int (4 : Int32))]) (c_length_4 l Z a0 hw a t ck c0 c1 c2 c3 h0 hCpt E C V A hc0 hc1 hc2 hc3) (lenOf pd_1 rfl) (hb hby d_prog_7_method_12_6) (pc' := 9) rfl rfl rfl rfl (by decide) (W := 1) (Nat.le_of_eq rfl) (by decide) (by decide) (by decide) ?_
                                        intro T117 X117 e117
                                        refine gIcmpGe X117 hx (hb hby d_prog_7_method_12_9) (pc' := 52) (by decide) (by decide) (pn := 12) rfl (fun (c9'''' : (4 : Int) ≤ (4 : Int)) => ?_) (fun (c9'''' : (4 : Int) < (4 : Int)) => ?_)
                                        · refine gLoadIN X117 hx (hb hby d_prog_7_method_12_52) (pc' := 53) rfl rfl ?_
                                          exact gRetN X117 hx hlk hret (by simp) (hb hby d_prog_7_method_12_53) (w := (0 : Int32)) rfl (by decide) (by decide) (just_f (by omega) e117)
                                        · exact absurd c9'''' (by decide)
                                      · refine gIconst X116 hx (v := (1 : Int32)) (hb hby d_prog_7_method_12_40) (pc' := 41) rfl rfl ?_
                                        refine gGoto X116 hx (hb hby d_prog_7_method_12_41) (pc' := 45) (by decide) (by decide) ?_
                                        refine gStoreIN X116 hx (hb hby d_prog_7_method_12_45) (l' := #[.val (.ref a), .val (.int (1 : Int32)), .val (.int (3 : Int32)), .val (.int c3)]) (pc' := 46) rfl rfl ?_
                                        refine gIinc X116 hx (v := (1 : Int32)) (hb hby d_prog_7_method_12_46) (l' := #[.val (.ref a), .val (.int (1 : Int32)), .val (.int (4 : Int32)), .val (.int c3)]) (pc' := 49) rfl rfl rfl rfl ?_
                                        refine gGoto X116 hx (hb hby d_prog_7_method_12_49) (pc' := 4) (by decide) (by decide) ?_
                                        refine gLoadIN X116 hx (hb hby d_prog_7_method_12_4) (pc' := 5) rfl rfl ?_
                                        refine gLoadAN X116 hx (hb hby d_prog_7_method_12_5) (pc' := 6) rfl rfl rfl ?_
                                        refine gCallVJ X116 hx hZ (y := (⟨"java/lang/String", "length", "()I"⟩ : MethodName)) hown e116 (by rw [hml]; rfl) E (hw _ (List.mem_of_getElem? (i := 27) rfl)) (hw _ (List.mem_of_getElem? (i := 28) rfl)) (hw _ (List.mem_of_getElem? (i := 30) rfl)) (hw _ (List.mem_of_getElem? (i := 29) rfl)) (hw _ (List.mem_of_getElem? (i := 4) rfl)) (hw _ (List.mem_of_getElem? (i := 31) rfl)) (by decide) (argsL := []) (st := [(.int (4 : Int32))]) (c_length_4 l Z a0 hw a t ck c0 c1 c2 c3 h0 hCpt E C V A hc0 hc1 hc2 hc3) (lenOf pd_1 rfl) (hb hby d_prog_7_method_12_6) (pc' := 9) rfl rfl rfl rfl (by decide) (W := 1) (Nat.le_of_eq rfl) (by decide) (by decide) (by decide) ?_
                                        intro T118 X118 e118
                                        refine gIcmpGe X118 hx (hb hby d_prog_7_method_12_9) (pc' := 52) (by decide) (by decide) (pn := 12) rfl (fun (c9'''' : (4 : Int) ≤ (4 : Int)) => ?_) (fun (c9'''' : (4 : Int) < (4 : Int)) => ?_)
                                        · refine gLoadIN X118 hx (hb hby d_prog_7_method_12_52) (pc' := 53) rfl rfl ?_
                                          exact gRetN X118 hx hlk hret (by simp) (hb hby d_prog_7_method_12_53) (w := (1 : Int32)) rfl (by decide) (by decide) (just_t (by omega) e118)
                                        · exact absurd c9'''' (by decide)
                                    · refine gLoadIN X116 hx (hb hby d_prog_7_method_12_28) (pc' := 29) rfl rfl ?_
                                      refine gBipush X116 hx (v := (9 : Int32)) (hb hby d_prog_7_method_12_29) (pc' := 31) rfl rfl ?_
                                      refine gIcmpNeT X116 hx (hb hby d_prog_7_method_12_31) (pc' := 44) (by decide) (by decide) (pn := 34) rfl (fun (c31''' : ¬ c3.toInt = (9 : Int)) => ?_) (fun (c31''' : c3.toInt = (9 : Int)) => ?_)
                                      · refine gIconst X116 hx (v := (0 : Int32)) (hb hby d_prog_7_method_12_44) (pc' := 45) rfl rfl ?_
                                        refine gStoreIN X116 hx (hb hby d_prog_7_method_12_45) (l' := #[.val (.ref a), .val (.int (0 : Int32)), .val (.int (3 : Int32)), .val (.int c3)]) (pc' := 46) rfl rfl ?_
                                        refine gIinc X116 hx (v := (1 : Int32)) (hb hby d_prog_7_method_12_46) (l' := #[.val (.ref a), .val (.int (0 : Int32)), .val (.int (4 : Int32)), .val (.int c3)]) (pc' := 49) rfl rfl rfl rfl ?_
                                        refine gGoto X116 hx (hb hby d_prog_7_method_12_49) (pc' := 4) (by decide) (by decide) ?_
                                        refine gLoadIN X116 hx (hb hby d_prog_7_method_12_4) (pc' := 5) rfl rfl ?_
                                        refine gLoadAN X116 hx (hb hby d_prog_7_method_12_5) (pc' := 6) rfl rfl rfl ?_
                                        refine gCallVJ X116 hx hZ (y := (⟨"java/lang/String", "length", "()I"⟩ : MethodName)) hown e116 (by rw [hml]; rfl) E (hw _ (List.mem_of_getElem? (i := 27) rfl)) (hw _ (List.mem_of_getElem? (i := 28) rfl)) (hw _ (List.mem_of_getElem? (i := 30) rfl)) (hw _ (List.mem_of_getElem? (i := 29) rfl)) (hw _ (List.mem_of_getElem? (i := 4) rfl)) (hw _ (List.mem_of_getElem? (i := 31) rfl)) (by decide) (argsL := []) (st := [(.int (4 : Int32))]) (c_length_4 l Z a0 hw a t ck c0 c1 c2 c3 h0 hCpt E C V A hc0 hc1 hc2 hc3) (lenOf pd_1 rfl) (hb hby d_prog_7_method_12_6) (pc' := 9) rfl rfl rfl rfl (by decide) (W := 1) (Nat.le_of_eq rfl) (by decide) (by decide) (by decide) ?_
                                        intro T119 X119 e119
                                        refine gIcmpGe X119 hx (hb hby d_prog_7_method_12_9) (pc' := 52) (by decide) (by decide) (pn := 12) rfl (fun (c9'''' : (4 : Int) ≤ (4 : Int)) => ?_) (fun (c9'''' : (4 : Int) < (4 : Int)) => ?_)
                                        · refine gLoadIN X119 hx (hb hby d_prog_7_method_12_52) (pc' := 53) rfl rfl ?_
                                          exact gRetN X119 hx hlk hret (by simp) (hb hby d_prog_7_method_12_53) (w := (0 : Int32)) rfl (by decide) (by decide) (just_f (by omega) e119)
                                        · exact absurd c9'''' (by decide)
                                      · refine gLoadIN X116 hx (hb hby d_prog_7_method_12_34) (pc' := 35) rfl rfl ?_
                                        refine gBipush X116 hx (v := (127 : Int32)) (hb hby d_prog_7_method_12_35) (pc' := 37) rfl rfl ?_
                                        refine gIcmpEqT X116 hx (hb hby d_prog_7_method_12_37) (pc' := 44) (by decide) (by decide) (pn := 40) rfl (fun (c37''' : c3.toInt = (127 : Int)) => ?_) (fun (c37''' : ¬ c3.toInt = (127 : Int)) => ?_)
                                        · exact absurd c37''' (by omega)
                                        · refine gIconst X116 hx (v := (1 : Int32)) (hb hby d_prog_7_method_12_40) (pc' := 41) rfl rfl ?_
                                          refine gGoto X116 hx (hb hby d_prog_7_method_12_41) (pc' := 45) (by decide) (by decide) ?_
                                          refine gStoreIN X116 hx (hb hby d_prog_7_method_12_45) (l' := #[.val (.ref a), .val (.int (1 : Int32)), .val (.int (3 : Int32)), .val (.int c3)]) (pc' := 46) rfl rfl ?_
                                          refine gIinc X116 hx (v := (1 : Int32)) (hb hby d_prog_7_method_12_46) (l' := #[.val (.ref a), .val (.int (1 : Int32)), .val (.int (4 : Int32)), .val (.int c3)]) (pc' := 49) rfl rfl rfl rfl ?_
                                          refine gGoto X116 hx (hb hby d_prog_7_method_12_49) (pc' := 4) (by decide) (by decide) ?_
                                          refine gLoadIN X116 hx (hb hby d_prog_7_method_12_4) (pc' := 5) rfl rfl ?_
                                          refine gLoadAN X116 hx (hb hby d_prog_7_method_12_5) (pc' := 6) rfl rfl rfl ?_
                                          refine gCallVJ X116 hx hZ (y := (⟨"java/lang/String", "length", "()I"⟩ : MethodName)) hown e116 (by rw [hml]; rfl) E (hw _ (List.mem_of_getElem? (i := 27) rfl)) (hw _ (List.mem_of_getElem? (i := 28) rfl)) (hw _ (List.mem_of_getElem? (i := 30) rfl)) (hw _ (List.mem_of_getElem? (i := 29) rfl)) (hw _ (List.mem_of_getElem? (i := 4) rfl)) (hw _ (List.mem_of_getElem? (i := 31) rfl)) (by decide) (argsL := []) (st := [(.int (4 : Int32))]) (c_length_4 l Z a0 hw a t ck c0 c1 c2 c3 h0 hCpt E C V A hc0 hc1 hc2 hc3) (lenOf pd_1 rfl) (hb hby d_prog_7_method_12_6) (pc' := 9) rfl rfl rfl rfl (by decide) (W := 1) (Nat.le_of_eq rfl) (by decide) (by decide) (by decide) ?_
                                          intro T120 X120 e120
                                          refine gIcmpGe X120 hx (hb hby d_prog_7_method_12_9) (pc' := 52) (by decide) (by decide) (pn := 12) rfl (fun (c9'''' : (4 : Int) ≤ (4 : Int)) => ?_) (fun (c9'''' : (4 : Int) < (4 : Int)) => ?_)
                                          · refine gLoadIN X120 hx (hb hby d_prog_7_method_12_52) (pc' := 53) rfl rfl ?_
                                            exact gRetN X120 hx hlk hret (by simp) (hb hby d_prog_7_method_12_53) (w := (1 : Int32)) rfl (by decide) (by decide) (just_t (by omega) e120)
                                          · exact absurd c9'''' (by decide)
theorem own_char (x : Int32) : 0 ≤ ((x &&& 255).toUInt32.toUInt16.toUInt32.toInt32).toInt ∧ ((x &&& 255).toUInt32.toUInt16.toUInt32.toInt32).toInt ≤ 255 := by
  rw [own_i2c, own_mask, own_mask8]; omega
theorem own_rem (x : Int32) : (x &&& 2147483647) % 5 = 0 ∨ (x &&& 2147483647) % 5 = 1 ∨ (x &&& 2147483647) % 5 = 2 ∨ (x &&& 2147483647) % 5 = 3 ∨ (x &&& 2147483647) % 5 = 4 := by
  have e1 : (x &&& 2147483647).toInt = x.toInt % 2 ^ 31 := Jvm.Kit.i32_mask x 2147483647 (by decide) (by decide)
  have e2 : ((x &&& 2147483647) % 5).toInt = (x &&& 2147483647).toInt % 5 := Jvm.Kit.i32_rem_nonneg (by omega)
  simp only [← Int32.toInt_inj, e2]
  have t0 : (0 : Int32).toInt = 0 := rfl
  have t1 : (1 : Int32).toInt = 1 := rfl
  have t2 : (2 : Int32).toInt = 2 := rfl
  have t3 : (3 : Int32).toInt = 3 := rfl
  have t4 : (4 : Int32).toInt = 4 := rfl
  omega
theorem d_jdk_52_method_21_0 : decode jdk_52_method_21_code 0 = .ok (.iconst 0, 1) := by decide +kernel
theorem d_jdk_52_method_21_1 : decode jdk_52_method_21_code 1 = .ok (.istore 5, 2) := by decide +kernel
theorem d_jdk_52_method_21_3 : decode jdk_52_method_21_code 3 = .ok (.iload 5, 2) := by decide +kernel
theorem d_jdk_52_method_21_5 : decode jdk_52_method_21_code 5 = .ok (.iload 4, 2) := by decide +kernel
theorem d_jdk_52_method_21_7 : decode jdk_52_method_21_code 7 = .ok (.if_icmp .ge 37, 3) := by decide +kernel
theorem d_jdk_52_method_21_10 : decode jdk_52_method_21_code 10 = .ok (.aload_n 0, 1) := by decide +kernel
theorem d_jdk_52_method_21_11 : decode jdk_52_method_21_code 11 = .ok (.iload_n 1, 1) := by decide +kernel
theorem d_jdk_52_method_21_12 : decode jdk_52_method_21_code 12 = .ok (.caload, 1) := by decide +kernel
theorem d_jdk_52_method_21_13 : decode jdk_52_method_21_code 13 = .ok (.istore 6, 2) := by decide +kernel
theorem d_jdk_52_method_21_15 : decode jdk_52_method_21_code 15 = .ok (.iload 6, 2) := by decide +kernel
theorem d_jdk_52_method_21_17 : decode jdk_52_method_21_code 17 = .ok (.sipush 255, 3) := by decide +kernel
theorem d_jdk_52_method_21_20 : decode jdk_52_method_21_code 20 = .ok (.if_icmp .le 6, 3) := by decide +kernel
theorem d_jdk_52_method_21_26 : decode jdk_52_method_21_code 26 = .ok (.aload_n 2, 1) := by decide +kernel
theorem d_jdk_52_method_21_27 : decode jdk_52_method_21_code 27 = .ok (.iload_n 3, 1) := by decide +kernel
theorem d_jdk_52_method_21_28 : decode jdk_52_method_21_code 28 = .ok (.iload 6, 2) := by decide +kernel
theorem d_jdk_52_method_21_30 : decode jdk_52_method_21_code 30 = .ok (.i2b, 1) := by decide +kernel
theorem d_jdk_52_method_21_31 : decode jdk_52_method_21_code 31 = .ok (.bastore, 1) := by decide +kernel
theorem d_jdk_52_method_21_32 : decode jdk_52_method_21_code 32 = .ok (.iinc 1 1, 3) := by decide +kernel
theorem d_jdk_52_method_21_35 : decode jdk_52_method_21_code 35 = .ok (.iinc 3 1, 3) := by decide +kernel
theorem d_jdk_52_method_21_38 : decode jdk_52_method_21_code 38 = .ok (.iinc 5 1, 3) := by decide +kernel
theorem d_jdk_52_method_21_41 : decode jdk_52_method_21_code 41 = .ok (.goto (-38), 3) := by decide +kernel
theorem d_jdk_52_method_21_44 : decode jdk_52_method_21_code 44 = .ok (.iload 4, 2) := by decide +kernel
theorem d_jdk_52_method_21_46 : decode jdk_52_method_21_code 46 = .ok (.ireturn, 1) := by decide +kernel
theorem pn_5 : plainName "java/lang/StringUTF16" = true := by first | (simp [plainName, overriddenIn]; done) | decide +kernel
theorem ef_c_compress_1i (m : MethodId) (x : Addr) (t : Addr) : entryFrame m #[(.ref x), (.int (0 : Int32)), (.ref t), (.int (0 : Int32)), (.int (1 : Int32))] 7 = mkF m 0 #[.val (.ref x), .val (.int (0 : Int32)), .val (.ref t), .val (.int (0 : Int32)), .val (.int (1 : Int32)), .unset, .unset] [] := by first | (simp [entryFrame, mkF, argsToLocals, Value.category]; done) | rfl
set_option maxRecDepth 65536 in
set_option maxHeartbeats 40000000 in
theorem c_compress_1i (l : Launch) (Z : State) (a0 : Array Value) (hw : ∀ d ∈ tables_1, d.before a0 Z = true) (x t : Addr) (cx ct : ClassId) (n0 : Nat) (c0 : Int32) (h0 : Heap) (gt : n0 ≤ t) (hne : x ≠ t) (A : Arv Z h0 x cx .char 1 [.int c0] (.int 0)) (B : Arv Z h0 t ct .byte 1 [.int 0] (.int 0)) (hc0 : 0 ≤ c0.toInt ∧ c0.toInt ≤ 255) :
    Ctr l Z (⟨"java/lang/StringUTF16", "compress", "([CI[BII)I"⟩ : MethodName) jdk_52_method_21_code 7 (some .int) [] ({ frames := 0, cells := 0, slots := 0, locals := 0 } : Room) #[(.ref x), (.int (0 : Int32)), (.ref t), (.int (0 : Int32)), (.int (1 : Int32))] h0 (fun v h L => v = some (.int 1) ∧ Fr n0 L ∧ Keep h0 h [t] ∧ Arv Z h t ct .byte 1 [by8 c0] (.int 0)) := by
  refine Ctr.of (plainFor_of_name pn_5) ?_
  intro p e s m below meth c s₁ hx hby hml hret hown hnm hZ hlk X0 e0
  refine Goes.cast (ef_c_compress_1i m x t) ?_
  refine gIconst X0 hx (v := (0 : Int32)) (hb hby d_jdk_52_method_21_0) (pc' := 1) rfl rfl ?_
  refine gStoreI X0 hx (hb hby d_jdk_52_method_21_1) (l' := #[.val (.ref x), .val (.int (0 : Int32)), .val (.ref t), .val (.int (0 : Int32)), .val (.int (1 : Int32)), .val (.int (0 : Int32)), .unset]) (pc' := 3) rfl rfl ?_
  refine gLoadI X0 hx (hb hby d_jdk_52_method_21_3) (pc' := 5) rfl rfl ?_
  refine gLoadI X0 hx (hb hby d_jdk_52_method_21_5) (pc' := 7) rfl rfl ?_
  refine gIcmpGe X0 hx (hb hby d_jdk_52_method_21_7) (pc' := 44) (by decide) (by decide) (pn := 10) rfl (fun (c7 : (1 : Int) ≤ (0 : Int)) => ?_) (fun (c7 : (0 : Int) < (1 : Int)) => ?_)
  · exact absurd c7 (by decide)
  · refine gLoadAN X0 hx (hb hby d_jdk_52_method_21_10) (pc' := 11) rfl rfl rfl ?_
    refine gLoadIN X0 hx (hb hby d_jdk_52_method_21_11) (pc' := 12) rfl rfl ?_
    refine gCaload X0 hx hZ e0 A (j := (0 : Int32)) (v := (.int c0)) (by decide) (by decide) rfl (hb hby d_jdk_52_method_21_12) (pc' := 13) rfl ?_
    refine gStoreI X0 hx (hb hby d_jdk_52_method_21_13) (l' := #[.val (.ref x), .val (.int (0 : Int32)), .val (.ref t), .val (.int (0 : Int32)), .val (.int (1 : Int32)), .val (.int (0 : Int32)), .val (.int c0)]) (pc' := 15) rfl rfl ?_
    refine gLoadI X0 hx (hb hby d_jdk_52_method_21_15) (pc' := 17) rfl rfl ?_
    refine gSipush X0 hx (v := (255 : Int32)) (hb hby d_jdk_52_method_21_17) (pc' := 20) rfl rfl ?_
    refine gIcmpLe X0 hx (hb hby d_jdk_52_method_21_20) (pc' := 26) (by decide) (by decide) (pn := 23) rfl (fun (c20 : c0.toInt ≤ (255 : Int)) => ?_) (fun (c20 : (255 : Int) < c0.toInt) => ?_)
    · refine gLoadAN X0 hx (hb hby d_jdk_52_method_21_26) (pc' := 27) rfl rfl rfl ?_
      refine gLoadIN X0 hx (hb hby d_jdk_52_method_21_27) (pc' := 28) rfl rfl ?_
      refine gLoadI X0 hx (hb hby d_jdk_52_method_21_28) (pc' := 30) rfl rfl ?_
      refine gI2b X0 hx (hb hby d_jdk_52_method_21_30) (pc' := 31) rfl ?_
      refine gBastore X0 hx hZ e0 (x := (c0.toInt8.toInt32)) B (j := (0 : Int32)) (by decide) (by decide) 0 (by decide) (by simp) (hb hby d_jdk_52_method_21_31) (pc' := 32) rfl (fun T1 h1 X1 e1 W1 A1 => ?_)
      have f1_0 := A.other W1 hne
      have zs1 : h0.size ≤ h1.size := by rw [W1.size]; exact (Nat.le_refl _)
      have N1 := Fr.snoc X1 (Fr.nil n0) gt
      have K1 : Keep h0 h1 [t] := (Keep.refl h0 [t]).wr W1 (Or.inl (by simp))
      have V1 : Arv Z h1 t _ .byte (1 : Int32) [(.int (c0.toInt8.toInt32))] (.int 0) := (by have q := A1; rw [own_nb] at q; exact q)
      refine gIinc X1 hx (v := (1 : Int32)) (hb hby d_jdk_52_method_21_32) (l' := #[.val (.ref x), .val (.int (1 : Int32)), .val (.ref t), .val (.int (0 : Int32)), .val (.int (1 : Int32)), .val (.int (0 : Int32)), .val (.int c0)]) (pc' := 35) rfl rfl rfl rfl ?_
      refine gIinc X1 hx (v := (1 : Int32)) (hb hby d_jdk_52_method_21_35) (l' := #[.val (.ref x), .val (.int (1 : Int32)), .val (.ref t), .val (.int (1 : Int32)), .val (.int (1 : Int32)), .val (.int (0 : Int32)), .val (.int c0)]) (pc' := 38) rfl rfl rfl rfl ?_
      refine gIinc X1 hx (v := (1 : Int32)) (hb hby d_jdk_52_method_21_38) (l' := #[.val (.ref x), .val (.int (1 : Int32)), .val (.ref t), .val (.int (1 : Int32)), .val (.int (1 : Int32)), .val (.int (1 : Int32)), .val (.int c0)]) (pc' := 41) rfl rfl rfl rfl ?_
      refine gGoto X1 hx (hb hby d_jdk_52_method_21_41) (pc' := 3) (by decide) (by decide) ?_
      refine gLoadI X1 hx (hb hby d_jdk_52_method_21_3) (pc' := 5) rfl rfl ?_
      refine gLoadI X1 hx (hb hby d_jdk_52_method_21_5) (pc' := 7) rfl rfl ?_
      refine gIcmpGe X1 hx (hb hby d_jdk_52_method_21_7) (pc' := 44) (by decide) (by decide) (pn := 10) rfl (fun (c7' : (1 : Int) ≤ (1 : Int)) => ?_) (fun (c7' : (1 : Int) < (1 : Int)) => ?_)
      · refine gLoadI X1 hx (hb hby d_jdk_52_method_21_44) (pc' := 46) rfl rfl ?_
        exact gRetI X1 hx hlk hret (hb hby d_jdk_52_method_21_46) (by decide) (by decide) (⟨rfl, N1, by rw [e1]; exact K1, by rw [e1]; exact V1⟩)
      · exact absurd c7' (by decide)
    · exact absurd c20 (by omega)
theorem d_jdk_52_method_16_0 : decode jdk_52_method_16_code 0 = .ok (.iload_n 2, 1) := by decide +kernel
theorem d_jdk_52_method_16_1 : decode jdk_52_method_16_code 1 = .ok (.newarray .byte, 2) := by decide +kernel
theorem d_jdk_52_method_16_3 : decode jdk_52_method_16_code 3 = .ok (.astore_n 3, 1) := by decide +kernel
theorem d_jdk_52_method_16_4 : decode jdk_52_method_16_code 4 = .ok (.aload_n 0, 1) := by decide +kernel
theorem d_jdk_52_method_16_5 : decode jdk_52_method_16_code 5 = .ok (.iload_n 1, 1) := by decide +kernel
theorem d_jdk_52_method_16_6 : decode jdk_52_method_16_code 6 = .ok (.aload_n 3, 1) := by decide +kernel
theorem d_jdk_52_method_16_7 : decode jdk_52_method_16_code 7 = .ok (.iconst 0, 1) := by decide +kernel
theorem d_jdk_52_method_16_8 : decode jdk_52_method_16_code 8 = .ok (.iload_n 2, 1) := by decide +kernel
theorem d_jdk_52_method_16_9 : decode jdk_52_method_16_code 9 = .ok (.invokestatic 115, 3) := by decide +kernel
theorem pd_14 : parseMethodDescriptor "([CI[BII)I" = some ⟨[(.array .char), .int, (.array .byte), .int, .int], some .int⟩ := by decide +kernel
theorem d_jdk_52_method_16_12 : decode jdk_52_method_16_code 12 = .ok (.istore 4, 2) := by decide +kernel
theorem d_jdk_52_method_16_14 : decode jdk_52_method_16_code 14 = .ok (.iload 4, 2) := by decide +kernel
theorem d_jdk_52_method_16_16 : decode jdk_52_method_16_code 16 = .ok (.iload_n 2, 1) := by decide +kernel
theorem d_jdk_52_method_16_17 : decode jdk_52_method_16_code 17 = .ok (.if_icmp .eq 40, 3) := by decide +kernel
theorem d_jdk_52_method_16_57 : decode jdk_52_method_16_code 57 = .ok (.aload_n 3, 1) := by decide +kernel
theorem d_jdk_52_method_16_58 : decode jdk_52_method_16_code 58 = .ok (.areturn, 1) := by decide +kernel
theorem ef_c_compress_1 (m : MethodId) (x : Addr) : entryFrame m #[(.ref x), (.int (0 : Int32)), (.int (1 : Int32))] 6 = mkF m 0 #[.val (.ref x), .val (.int (0 : Int32)), .val (.int (1 : Int32)), .unset, .unset, .unset] [] := by first | (simp [entryFrame, mkF, argsToLocals, Value.category]; done) | rfl
set_option maxRecDepth 65536 in
set_option maxHeartbeats 40000000 in
theorem c_compress_1 (l : Launch) (Z : State) (a0 : Array Value) (hw : ∀ d ∈ tables_1, d.before a0 Z = true) (x : Addr) (cx : ClassId) (c0 : Int32) (h0 : Heap) (A : Arv Z h0 x cx .char 1 [.int c0] (.int 0)) (hc0 : 0 ≤ c0.toInt ∧ c0.toInt ≤ 255) :
    Ctr l Z (⟨"java/lang/StringUTF16", "compress", "([CII)[B"⟩ : MethodName) jdk_52_method_16_code 6 (some (.array .byte)) [] ({ frames := 1, cells := 1, slots := 1, locals := 18 } : Room) #[(.ref x), (.int (0 : Int32)), (.int (1 : Int32))] h0 (fun v h L => ∃ (t : Addr) (ct : ClassId), v = some (.ref t) ∧ h0.size ≤ t ∧ Fr h0.size L ∧ Keep h0 h [] ∧ Arv Z h t ct .byte 1 [by8 c0] (.int 0)) := by
  refine Ctr.of (plainFor_of_name pn_5) ?_
  intro p e s m below meth c s₁ hx hby hml hret hown hnm hZ hlk X0 e0
  refine Goes.cast (ef_c_compress_1 m x) ?_
  refine gLoadIN X0 hx (hb hby d_jdk_52_method_16_0) (pc' := 1) rfl rfl ?_
  refine gNewP X0 hx hZ (hw _ (List.mem_of_getElem? (i := 16) rfl)) e0 (n := (1 : Int32)) (hb hby d_jdk_52_method_16_1) (by decide) (cap := 1) (by decide) (by decide) (by decide) (by decide) 1 (pc' := 3) rfl (fun T1 h1 b1 ck1 X1 e1 g1 E1 A1 => ?_)
  have ne_x_b1 : x ≠ b1 := Nat.ne_of_lt (Nat.lt_of_lt_of_eq A.lt g1.symm)
  have f1_0 := A.ext E1
  have sz_b1 : h0.size ≤ b1 := Nat.le_trans (Nat.le_refl _) (Nat.le_of_eq g1.symm)
  have zs1 : h0.size ≤ h1.size := Nat.le_trans (Nat.le_refl _) E1.1
  have K1 : Keep h0 h1 [] := (Keep.refl h0 []).ext E1
  have V1 : Arv Z h1 b1 ck1 .byte (1 : Int32) [(.int (0 : Int32))] (.int (0 : Int32)) := A1
  refine gStoreAN X1 hx (hb hby d_jdk_52_method_16_3) (l' := #[.val (.ref x), .val (.int (0 : Int32)), .val (.int (1 : Int32)), .val (.ref b1), .unset, .unset]) (pc' := 4) rfl rfl rfl ?_
  refine gLoadAN X1 hx (hb hby d_jdk_52_method_16_4) (pc' := 5) rfl rfl rfl ?_
  refine gLoadIN X1 hx (hb hby d_jdk_52_method_16_5) (pc' := 6) rfl rfl ?_
  refine gLoadAN X1 hx (hb hby d_jdk_52_method_16_6) (pc' := 7) rfl rfl rfl ?_
  refine gIconst X1 hx (v := (0 : Int32)) (hb hby d_jdk_52_method_16_7) (pc' := 8) rfl rfl ?_
  refine gLoadIN X1 hx (hb hby d_jdk_52_method_16_8) (pc' := 9) rfl rfl ?_
  refine gCallS X1 hx hZ (y := (⟨"java/lang/StringUTF16", "compress", "([CI[BII)I"⟩ : MethodName)) hown e1 (by rw [hml]; rfl) (hw _ (List.mem_of_getElem? (i := 42) rfl)) (hw _ (List.mem_of_getElem? (i := 43) rfl)) (hw _ (List.mem_of_getElem? (i := 40) rfl)) (hw _ (List.mem_of_getElem? (i := 44) rfl)) (by decide) (argsL := [(.ref x), (.int (0 : Int32)), (.ref b1), (.int (0 : Int32)), (.int (1 : Int32))]) (st := []) (c_compress_1i l Z a0 hw x b1 cx ck1 h0.size c0 h1 sz_b1 ne_x_b1 f1_0 V1 hc0) (lenOf pd_14 rfl) (hb hby d_jdk_52_method_16_9) (pc' := 12) rfl rfl (by decide) (W := 0) (Nat.le_of_eq rfl) (by decide) (by decide) (by decide) ?_
  intro T2 v2 L2 X2 hQ2
  obtain ⟨rfl, Nq2, Kq2, Aq2⟩ := hQ2
  have N2 := Fr.app (Fr.nil h0.size) Nq2
  have K2 : Keep h0 T2.heap [] := K1.trans Kq2 (allS (Or.inr sz_b1) all0)
  refine gStoreI X2 hx (hb hby d_jdk_52_method_16_12) (l' := #[.val (.ref x), .val (.int (0 : Int32)), .val (.int (1 : Int32)), .val (.ref b1), .val (.int (1 : Int32)), .unset]) (pc' := 14) rfl rfl ?_
  refine gLoadI X2 hx (hb hby d_jdk_52_method_16_14) (pc' := 16) rfl rfl ?_
  refine gLoadIN X2 hx (hb hby d_jdk_52_method_16_16) (pc' := 17) rfl rfl ?_
  refine gIcmpEqT X2 hx (hb hby d_jdk_52_method_16_17) (pc' := 57) (by decide) (by decide) (pn := 20) rfl (fun (c17 : (1 : Int) = (1 : Int)) => ?_) (fun (c17 : ¬ (1 : Int) = (1 : Int)) => ?_)
  · refine gLoadAN X2 hx (hb hby d_jdk_52_method_16_57) (pc' := 58) rfl rfl rfl ?_
    exact gRetA X2 hx hlk hret rfl rfl (hb hby d_jdk_52_method_16_58) (by decide) (by decide) (⟨b1, _, rfl, sz_b1, N2, K2, Aq2⟩)
  · exact absurd c17 (by decide)
theorem d_jdk_52_method_15_0 : decode jdk_52_method_15_code 0 = .ok (.iload_n 1, 1) := by decide +kernel
theorem d_jdk_52_method_15_1 : decode jdk_52_method_15_code 1 = .ok (.aload_n 0, 1) := by decide +kernel
theorem d_jdk_52_method_15_2 : decode jdk_52_method_15_code 2 = .ok (.arraylength, 1) := by decide +kernel
theorem d_jdk_52_method_15_3 : decode jdk_52_method_15_code 3 = .ok (.isub, 1) := by decide +kernel
theorem d_jdk_52_method_15_4 : decode jdk_52_method_15_code 4 = .ok (.bipush 31, 2) := by decide +kernel
theorem d_jdk_52_method_15_6 : decode jdk_52_method_15_code 6 = .ok (.iushr, 1) := by decide +kernel
theorem d_jdk_52_method_15_7 : decode jdk_52_method_15_code 7 = .ok (.i2b, 1) := by decide +kernel
theorem d_jdk_52_method_15_8 : decode jdk_52_method_15_code 8 = .ok (.ireturn, 1) := by decide +kernel
theorem ef_c_cfal_1 (m : MethodId) (t : Addr) : entryFrame m #[(.ref t), (.int (1 : Int32))] 2 = mkF m 0 #[.val (.ref t), .val (.int (1 : Int32))] [] := by first | (simp [entryFrame, mkF, argsToLocals, Value.category]; done) | rfl
set_option maxRecDepth 65536 in
set_option maxHeartbeats 40000000 in
theorem c_cfal_1 (l : Launch) (Z : State) (a0 : Array Value) (hw : ∀ d ∈ tables_1, d.before a0 Z = true) (t : Addr) (ck : ClassId) (c0 : Int32) (h0 : Heap) (A : Arv Z h0 t ck .byte 1 [by8 c0] (.int 0)) :
    Ctr l Z (⟨"java/lang/StringUTF16", "coderFromArrayLen", "([BI)B"⟩ : MethodName) jdk_52_method_15_code 2 (some .byte) [] ({ frames := 0, cells := 0, slots := 0, locals := 0 } : Room) #[(.ref t), (.int (1 : Int32))] h0 (Just h0 (.int 0)) := by
  refine Ctr.of (plainFor_of_name pn_5) ?_
  intro p e s m below meth c s₁ hx hby hml hret hown hnm hZ hlk X0 e0
  refine Goes.cast (ef_c_cfal_1 m t) ?_
  refine gLoadIN X0 hx (hb hby d_jdk_52_method_15_0) (pc' := 1) rfl rfl ?_
  refine gLoadAN X0 hx (hb hby d_jdk_52_method_15_1) (pc' := 2) rfl rfl rfl ?_
  refine gArrLen X0 hx hZ e0 A (hb hby d_jdk_52_method_15_2) (pc' := 3) rfl ?_
  refine gIsub X0 hx (hb hby d_jdk_52_method_15_3) (pc' := 4) rfl ?_
  show Goes p e below _ s₁ (mkF m 4 #[.val (.ref t), .val (.int (1 : Int32))] [(.int (0 : Int32))])
  refine gBipush X0 hx (v := (31 : Int32)) (hb hby d_jdk_52_method_15_4) (pc' := 6) rfl rfl ?_
  refine gIushr X0 hx (hb hby d_jdk_52_method_15_6) (pc' := 7) rfl ?_
  show Goes p e below _ s₁ (mkF m 7 #[.val (.ref t), .val (.int (1 : Int32))] [(.int (0 : Int32))])
  refine gI2b X0 hx (hb hby d_jdk_52_method_15_7) (pc' := 8) rfl ?_
  show Goes p e below _ s₁ (mkF m 8 #[.val (.ref t), .val (.int (1 : Int32))] [(.int (0 : Int32))])
  exact gRetN X0 hx hlk hret (by simp) (hb hby d_jdk_52_method_15_8) (w := (0 : Int32)) rfl (by decide) (by decide) (⟨rfl, e0, rfl⟩)
theorem d_jdk_42_method_149_0 : decode jdk_42_method_149_code 0 = .ok (.aload_n 0, 1) := by decide +kernel
theorem d_jdk_42_method_149_1 : decode jdk_42_method_149_code 1 = .ok (.invokespecial 1, 3) := by decide +kernel
theorem d_jdk_42_method_149_4 : decode jdk_42_method_149_code 4 = .ok (.iload_n 3, 1) := by decide +kernel
theorem d_jdk_42_method_149_5 : decode jdk_42_method_149_code 5 = .ok (.ifCond .ne 22, 3) := by decide +kernel
theorem d_jdk_42_method_149_27 : decode jdk_42_method_149_code 27 = .ok (.getstatic 38, 3) := by decide +kernel
theorem d_jdk_42_method_149_30 : decode jdk_42_method_149_code 30 = .ok (.ifCond .eq 28, 3) := by decide +kernel
theorem d_jdk_42_method_149_33 : decode jdk_42_method_149_code 33 = .ok (.aload_n 1, 1) := by decide +kernel
theorem d_jdk_42_method_149_34 : decode jdk_42_method_149_code 34 = .ok (.iload_n 2, 1) := by decide +kernel
theorem d_jdk_42_method_149_35 : decode jdk_42_method_149_code 35 = .ok (.iload_n 3, 1) := by decide +kernel
theorem d_jdk_42_method_149_36 : decode jdk_42_method_149_code 36 = .ok (.invokestatic 177, 3) := by decide +kernel
theorem pd_12 : parseMethodDescriptor "([CII)[B" = some ⟨[(.array .char), .int, .int], some (.array .byte)⟩ := by decide +kernel
theorem d_jdk_42_method_149_39 : decode jdk_42_method_149_code 39 = .ok (.astore 5, 2) := by decide +kernel
theorem d_jdk_42_method_149_41 : decode jdk_42_method_149_code 41 = .ok (.aload_n 0, 1) := by decide +kernel
theorem d_jdk_42_method_149_42 : decode jdk_42_method_149_code 42 = .ok (.aload 5, 2) := by decide +kernel
theorem d_jdk_42_method_149_44 : decode jdk_42_method_149_code 44 = .ok (.iload_n 3, 1) := by decide +kernel
theorem d_jdk_42_method_149_45 : decode jdk_42_method_149_code 45 = .ok (.invokestatic 47, 3) := by decide +kernel
theorem pd_9 : parseMethodDescriptor "([BI)B" = some ⟨[(.array .byte), .int], some .byte⟩ := by decide +kernel
theorem d_jdk_42_method_149_48 : decode jdk_42_method_149_code 48 = .ok (.putfield 15, 3) := by decide +kernel
theorem d_jdk_42_method_149_51 : decode jdk_42_method_149_code 51 = .ok (.aload_n 0, 1) := by decide +kernel
theorem d_jdk_42_method_149_52 : decode jdk_42_method_149_code 52 = .ok (.aload 5, 2) := by decide +kernel
theorem d_jdk_42_method_149_54 : decode jdk_42_method_149_code 54 = .ok (.putfield 9, 3) := by decide +kernel
theorem d_jdk_42_method_149_57 : decode jdk_42_method_149_code 57 = .ok (.return_, 1) := by decide +kernel
theorem ef_c_sinit_1v (m : MethodId) (a : Addr) (x : Addr) : entryFrame m #[(.ref a), (.ref x), (.int (0 : Int32)), (.int (1 : Int32)), .null] 6 = mkF m 0 #[.val (.ref a), .val (.ref x), .val (.int (0 : Int32)), .val (.int (1 : Int32)), .val .null, .unset] [] := by first | (simp [entryFrame, mkF, argsToLocals, Value.category]; done) | rfl
set_option maxRecDepth 65536 in
set_option maxHeartbeats 40000000 in
theorem c_sinit_1v (l : Launch) (Z : State) (a0 : Array Value) (hw : ∀ d ∈ tables_1, d.before a0 Z = true) (a x : Addr) (cx : ClassId) (n0 : Nat) (c0 : Int32) (h0 : Heap) (hCpt : Cpt Z h0) (ga : n0 ≤ a) (gz : n0 ≤ h0.size) (hax : x ≠ a) (E : Exa Z h0 a "java/lang/String") (C : Fld Z h0 a "java/lang/String" "coder" "B" (.int 0)) (V : Fld Z h0 a "java/lang/String" "value" "[B" .null) (A : Arv Z h0 x cx .char 1 [.int c0] (.int 0)) (hc0 : 0 ≤ c0.toInt ∧ c0.toInt ≤ 255) :
    Ctr l Z (⟨"java/lang/String", "<init>", "([CIILjava/lang/Void;)V"⟩ : MethodName) jdk_42_method_149_code 6 none [] ({ frames := 2, cells := 1, slots := 1, locals := 37 } : Room) #[(.ref a), (.ref x), (.int (0 : Int32)), (.int (1 : Int32)), .null] h0 (fun v h L => ∃ (t : Addr) (ct : ClassId), v = none ∧ Fr n0 L ∧ Keep h0 h [a] ∧ h0.size ≤ t ∧ Exa Z h a "java/lang/String" ∧ Fld Z h a "java/lang/String" "coder" "B" (.int 0) ∧ Fld Z h a "java/lang/String" "value" "[B" (.ref t) ∧ Arv Z h t ct .byte 1 [by8 c0] (.int 0)) := by
  refine Ctr.of (plainFor_of_name pn_3) ?_
  intro p e s m below meth c s₁ hx hby hml hret hown hnm hZ hlk X0 e0
  refine Goes.cast (ef_c_sinit_1v m a x) ?_
  have hCpt0 := hCpt
  obtain ⟨cz, SC, hcz⟩ := hCpt0
  refine gLoadAN X0 hx (hb hby d_jdk_42_method_149_0) (pc' := 1) rfl rfl rfl ?_
  refine gInitO X0 hx hZ hown (hw _ (List.mem_of_getElem? (i := 12) rfl)) (hw _ (List.mem_of_getElem? (i := 13) rfl)) (hw _ (List.mem_of_getElem? (i := 14) rfl)) e0 (by rw [hml]; rfl) (hb hby d_jdk_42_method_149_1) (pc' := 4) rfl (by decide) (W := 0) (Nat.le_of_eq rfl) (by decide) (fun T1 X1 e1 => ?_)
  refine gLoadIN X1 hx (hb hby d_jdk_42_method_149_4) (pc' := 5) rfl rfl ?_
  refine gIfNeT X1 hx (hb hby d_jdk_42_method_149_5) (pc' := 27) (by decide) (by decide) (pn := 8) rfl (fun (c5 : ¬ (1 : Int) = (0 : Int)) => ?_) (fun (c5 : (1 : Int) = (0 : Int)) => ?_)
  · refine gGetS X1 hx hZ hown (hw _ (List.mem_of_getElem? (i := 37) rfl)) Via.refl e1 SC (hb hby d_jdk_42_method_149_27) (pc' := 30) rfl (fun T2 X2 e2 => ?_)
    refine gIfEqT X2 hx (hb hby d_jdk_42_method_149_30) (pc' := 58) (by decide) (by decide) (pn := 33) rfl (fun (c30 : cz.toInt = (0 : Int)) => ?_) (fun (c30 : ¬ cz.toInt = (0 : Int)) => ?_)
    · exact absurd c30 hcz
    · refine gLoadAN X2 hx (hb hby d_jdk_42_method_149_33) (pc' := 34) rfl rfl rfl ?_
      refine gLoadIN X2 hx (hb hby d_jdk_42_method_149_34) (pc' := 35) rfl rfl ?_
      refine gLoadIN X2 hx (hb hby d_jdk_42_method_149_35) (pc' := 36) rfl rfl ?_
      refine gCallS X2 hx hZ (y := (⟨"java/lang/StringUTF16", "compress", "([CII)[B"⟩ : MethodName)) hown e2 (by rw [hml]; rfl) (hw _ (List.mem_of_getElem? (i := 38) rfl)) (hw _ (List.mem_of_getElem? (i := 39) rfl)) (hw _ (List.mem_of_getElem? (i := 40) rfl)) (hw _ (List.mem_of_getElem? (i := 41) rfl)) (by decide) (argsL := [(.ref x), (.int (0 : Int32)), (.int (1 : Int32))]) (st := []) (c_compress_1 l Z a0 hw x cx c0 h0 A hc0) (lenOf pd_12 rfl) (hb hby d_jdk_42_method_149_36) (pc' := 39) rfl rfl (by decide) (W := 0) (Nat.le_of_eq rfl) (by decide) (by decide) (by decide) ?_
      intro T3 v3 L3 X3 hQ3
      obtain ⟨t3, ct3, rfl, gt3, Nq3, Kq3, Aq3⟩ := hQ3
      have N3 := Fr.app (Fr.nil n0) (fun y hy => Nat.le_trans gz (Nq3 y hy))
      have K3 : Keep h0 T3.heap [a] := (Keep.refl h0 [a]).trans Kq3 all0
      have f3_0 := own_sta_keep SC Kq3 ns0
      have f3_1 := E.keep Kq3
      have f3_2 := C.keep Kq3 nin0
      have f3_3 := V.keep Kq3 nin0
      have nt3 : t3 ≠ a := Ne.symm (Nat.ne_of_lt (Nat.lt_of_lt_of_le E.lt gt3))
      refine gStoreA X3 hx (hb hby d_jdk_42_method_149_39) (l' := #[.val (.ref a), .val (.ref x), .val (.int (0 : Int32)), .val (.int (1 : Int32)), .val .null, .val (.ref t3)]) (pc' := 41) rfl rfl rfl ?_
      refine gLoadAN X3 hx (hb hby d_jdk_42_method_149_41) (pc' := 42) rfl rfl rfl ?_
      refine gLoadA X3 hx (hb hby d_jdk_42_method_149_42) (pc' := 44) rfl rfl rfl ?_
      refine gLoadIN X3 hx (hb hby d_jdk_42_method_149_44) (pc' := 45) rfl rfl ?_
      refine gCallSJ X3 hx hZ (y := (⟨"java/lang/StringUTF16", "coderFromArrayLen", "([BI)B"⟩ : MethodName)) hown rfl (by rw [hml]; rfl) (hw _ (List.mem_of_getElem? (i := 45) rfl)) (hw _ (List.mem_of_getElem? (i := 46) rfl)) (hw _ (List.mem_of_getElem? (i := 40) rfl)) (hw _ (List.mem_of_getElem? (i := 47) rfl)) (by decide) (argsL := [(.ref t3), (.int (1 : Int32))]) (st := [(.ref a)]) (c_cfal_1 l Z a0 hw t3 ct3 c0 _ Aq3) (lenOf pd_9 rfl) (hb hby d_jdk_42_method_149_45) (pc' := 48) rfl rfl rfl rfl (by decide) (W := 1) (Nat.le_of_eq rfl) (by decide) (by decide) (by decide) ?_
      intro T4 X4 e4
      refine gPutF X4 hx hZ hown (hw _ (List.mem_of_getElem? (i := 22) rfl)) Via.refl e4 f3_2 f3_1 (Or.inr ⟨(hw _ (List.mem_of_getElem? (i := 18) rfl)), rfl, hnm⟩) (hw _ (List.mem_of_getElem? (i := 3) rfl)) (ty := .byte) (by decide) rfl rfl (hb hby d_jdk_42_method_149_48) (pc' := 51) rfl (fun T5 h5 X5 e5 W5 => ?_)
      have f5_0 := f3_0.wr W5
      have f5_1 := f3_1.wr W5
      have f5_2 := f3_2.same W5
      have f5_3 := f3_3.other W5 (Or.inr (slot_ne (Or.inr (hw _ (List.mem_of_getElem? (i := 17) rfl))) (Or.inr (hw _ (List.mem_of_getElem? (i := 18) rfl))) (by decide) (t := (.array .byte)) (t' := .byte) (by decide) (by decide)))
      have f5_4 := Aq3.other W5 nt3
      have zs5 : h0.size ≤ h5.size := by rw [W5.size]; exact Kq3.1
      have N5 := Fr.snoc X5 N3 ga
      have K5 : Keep h0 h5 [a] := K3.wr W5 (Or.inl (by simp))
      refine gLoadAN X5 hx (hb hby d_jdk_42_method_149_51) (pc' := 52) rfl rfl rfl ?_
      refine gLoadA X5 hx (hb hby d_jdk_42_method_149_52) (pc' := 54) rfl rfl rfl ?_
      refine gPutF X5 hx hZ hown (hw _ (List.mem_of_getElem? (i := 21) rfl)) Via.refl e5 f5_3 f5_1 (Or.inr ⟨(hw _ (List.mem_of_getElem? (i := 17) rfl)), rfl, hnm⟩) (hw _ (List.mem_of_getElem? (i := 3) rfl)) (ty := (.array .byte)) (by decide) rfl rfl (hb hby d_jdk_42_method_149_54) (pc' := 57) rfl (fun T6 h6 X6 e6 W6 => ?_)
      have f6_0 := f5_0.wr W6
      have f6_1 := f5_1.wr W6
      have f6_2 := f5_2.other W6 (Or.inr (slot_ne (Or.inr (hw _ (List.mem_of_getElem? (i := 18) rfl))) (Or.inr (hw _ (List.mem_of_getElem? (i := 17) rfl))) (by decide) (t := .byte) (t' := (.array .byte)) (by decide) (by decide)))
      have f6_3 := f5_3.same W6
      have f6_4 := f5_4.other W6 nt3
      have zs6 : h0.size ≤ h6.size := by rw [W6.size]; exact zs5
      have N6 := Fr.snoc X6 N5 ga
      have K6 : Keep h0 h6 [a] := K5.wr W6 (Or.inl (by simp))
      exact gRetV X6 hx hlk hret (hb hby d_jdk_42_method_149_57) (by decide) (by decide) (⟨t3, ct3, rfl, N6, by rw [e6]; exact K6, gt3, by rw [e6]; exact f6_1, by rw [e6]; exact f6_2, by rw [e6]; exact f6_3, by rw [e6]; exact f6_4⟩)
  · exact absurd c5 (by decide)
theorem d_jdk_42_method_3_0 : decode jdk_42_method_3_code 0 = .ok (.aload_n 0, 1) := by decide +kernel
theorem d_jdk_42_method_3_1 : decode jdk_42_method_3_code 1 = .ok (.aload_n 1, 1) := by decide +kernel
theorem d_jdk_42_method_3_2 : decode jdk_42_method_3_code 2 = .ok (.iconst 0, 1) := by decide +kernel
theorem d_jdk_42_method_3_3 : decode jdk_42_method_3_code 3 = .ok (.aload_n 1, 1) := by decide +kernel
theorem d_jdk_42_method_3_4 : decode jdk_42_method_3_code 4 = .ok (.arraylength, 1) := by decide +kernel
theorem d_jdk_42_method_3_5 : decode jdk_42_method_3_code 5 = .ok (.aconst_null, 1) := by decide +kernel
theorem d_jdk_42_method_3_6 : decode jdk_42_method_3_code 6 = .ok (.invokespecial 27, 3) := by decide +kernel
theorem pd_13 : parseMethodDescriptor "([CIILjava/lang/Void;)V" = some ⟨[(.array .char), .int, .int, (.object "java/lang/Void")], none⟩ := by decide +kernel
theorem d_jdk_42_method_3_9 : decode jdk_42_method_3_code 9 = .ok (.return_, 1) := by decide +kernel
theorem ef_c_sinit_1 (m : MethodId) (a : Addr) (x : Addr) : entryFrame m #[(.ref a), (.ref x)] 2 = mkF m 0 #[.val (.ref a), .val (.ref x)] [] := by first | (simp [entryFrame, mkF, argsToLocals, Value.category]; done) | rfl
set_option maxRecDepth 65536 in
set_option maxHeartbeats 40000000 in
theorem c_sinit_1 (l : Launch) (Z : State) (a0 : Array Value) (hw : ∀ d ∈ tables_1, d.before a0 Z = true) (a x : Addr) (cx : ClassId) (n0 : Nat) (c0 : Int32) (h0 : Heap) (hCpt : Cpt Z h0) (ga : n0 ≤ a) (gz : n0 ≤ h0.size) (hax : x ≠ a) (E : Exa Z h0 a "java/lang/String") (C : Fld Z h0 a "java/lang/String" "coder" "B" (.int 0)) (V : Fld Z h0 a "java/lang/String" "value" "[B" .null) (A : Arv Z h0 x cx .char 1 [.int c0] (.int 0)) (hc0 : 0 ≤ c0.toInt ∧ c0.toInt ≤ 255) :
    Ctr l Z (⟨"java/lang/String", "<init>", "([C)V"⟩ : MethodName) jdk_42_method_3_code 2 none [] ({ frames := 3, cells := 1, slots := 1, locals := 54 } : Room) #[(.ref a), (.ref x)] h0 (fun v h L => ∃ (t : Addr) (ct : ClassId), v = none ∧ Fr n0 L ∧ Keep h0 h [a] ∧ h0.size ≤ t ∧ Exa Z h a "java/lang/String" ∧ Fld Z h a "java/lang/String" "coder" "B" (.int 0) ∧ Fld Z h a "java/lang/String" "value" "[B" (.ref t) ∧ Arv Z h t ct .byte 1 [by8 c0] (.int 0)) := by
  refine Ctr.of (plainFor_of_name pn_3) ?_
  intro p e s m below meth c s₁ hx hby hml hret hown hnm hZ hlk X0 e0
  refine Goes.cast (ef_c_sinit_1 m a x) ?_
  refine gLoadAN X0 hx (hb hby d_jdk_42_method_3_0) (pc' := 1) rfl rfl rfl ?_
  refine gLoadAN X0 hx (hb hby d_jdk_42_method_3_1) (pc' := 2) rfl rfl rfl ?_
  refine gIconst X0 hx (v := (0 : Int32)) (hb hby d_jdk_42_method_3_2) (pc' := 3) rfl rfl ?_
  refine gLoadAN X0 hx (hb hby d_jdk_42_method_3_3) (pc' := 4) rfl rfl rfl ?_
  refine gArrLen X0 hx hZ e0 A (hb hby d_jdk_42_method_3_4) (pc' := 5) rfl ?_
  refine gNull X0 hx (hb hby d_jdk_42_method_3_5) (pc' := 6) rfl ?_
  refine gCallI X0 hx hZ (y := (⟨"java/lang/String", "<init>", "([CIILjava/lang/Void;)V"⟩ : MethodName)) rfl hown e0 (by rw [hml]; rfl) (hw _ (List.mem_of_getElem? (i := 8) rfl)) (hw _ (List.mem_of_getElem? (i := 9) rfl)) (hw _ (List.mem_of_getElem? (i := 4) rfl)) (hw _ (List.mem_of_getElem? (i := 11) rfl)) (by decide) (argsL := [(.ref x), (.int (0 : Int32)), (.int (1 : Int32)), .null]) (st := []) (c_sinit_1v l Z a0 hw a x cx n0 c0 h0 hCpt ga gz hax E C V A hc0) (lenOf pd_13 rfl) (hb hby d_jdk_42_method_3_6) (pc' := 9) rfl rfl (by decide) (W := 0) (Nat.le_of_eq rfl) (by decide) (by decide) (by decide) ?_
  intro T1 v1 L1 X1 hQ1
  obtain ⟨t, ct, rfl, Nq, Kq, gt, Eq, Cq, Vq, Aq⟩ := hQ1
  exact gRetV X1 hx hlk hret (hb hby d_jdk_42_method_3_9) (by decide) (by decide) (⟨t, ct, rfl, Nq, Kq, gt, Eq, Cq, Vq, Aq⟩)
theorem ef_c_compress_2i (m : MethodId) (x : Addr) (t : Addr) : entryFrame m #[(.ref x), (.int (0 : Int32)), (.ref t), (.int (0 : Int32)), (.int (2 : Int32))] 7 = mkF m 0 #[.val (.ref x), .val (.int (0 : Int32)), .val (.ref t), .val (.int (0 : Int32)), .val (.int (2 : Int32)), .unset, .unset] [] := by first | (simp [entryFrame, mkF, argsToLocals, Value.category]; done) | rfl
set_option maxRecDepth 65536 in
set_option maxHeartbeats 40000000 in
theorem c_compress_2i (l : Launch) (Z : State) (a0 : Array Value) (hw : ∀ d ∈ tables_1, d.before a0 Z = true) (x t : Addr) (cx ct : ClassId) (n0 : Nat) (c0 c1 : Int32) (h0 : Heap) (gt : n0 ≤ t) (hne : x ≠ t) (A : Arv Z h0 x cx .char 2 [.int c0, .int c1] (.int 0)) (B : Arv Z h0 t ct .byte 2 [.int 0, .int 0] (.int 0)) (hc0 : 0 ≤ c0.toInt ∧ c0.toInt ≤ 255) (hc1 : 0 ≤ c1.toInt ∧ c1.toInt ≤ 255) :
    Ctr l Z (⟨"java/lang/StringUTF16", "compress", "([CI[BII)I"⟩ : MethodName) jdk_52_method_21_code 7 (some .int) [] ({ frames := 0, cells := 0, slots := 0, locals := 0 } : Room) #[(.ref x), (.int (0 : Int32)), (.ref t), (.int (0 : Int32)), (.int (2 : Int32))] h0 (fun v h L => v = some (.int 2) ∧ Fr n0 L ∧ Keep h0 h [t] ∧ Arv Z h t ct .byte 2 [by8 c0, by8 c1] (.int 0)) := by
  refine Ctr.of (plainFor_of_name pn_5) ?_
  intro p e s m below meth c s₁ hx hby hml hret hown hnm hZ hlk X0 e0
  refine Goes.cast (ef_c_compress_2i m x t) ?_
  refine gIconst X0 hx (v := (0 : Int32)) (hb hby d_jdk_52_method_21_0) (pc' := 1) rfl rfl ?_
  refine gStoreI X0 hx (hb hby d_jdk_52_method_21_1) (l' := #[.val (.ref x), .val (.int (0 : Int32)), .val (.ref t), .val (.int (0 : Int32)), .val (.int (2 : Int32)), .val (.int (0 : Int32)), .unset]) (pc' := 3) rfl rfl ?_
  refine gLoadI X0 hx (hb hby d_jdk_52_method_21_3) (pc' := 5) rfl rfl ?_
  refine gLoadI X0 hx (hb hby d_jdk_52_method_21_5) (pc' := 7) rfl rfl ?_
  refine gIcmpGe X0 hx (hb hby d_jdk_52_method_21_7) (pc' := 44) (by decide) (by decide) (pn := 10) rfl (fun (c7 : (2 : Int) ≤ (0 : Int)) => ?_) (fun (c7 : (0 : Int) < (2 : Int)) => ?_)
  · exact absurd c7 (by decide)
  · refine gLoadAN X0 hx (hb hby d_jdk_52_method_21_10) (pc' := 11) rfl rfl rfl ?_
    refine gLoadIN X0 hx (hb hby d_jdk_52_method_21_11) (pc' := 12) rfl rfl ?_
    refine gCaload X0 hx hZ e0 A (j := (0 : Int32)) (v := (.int c0)) (by decide) (by decide) rfl (hb hby d_jdk_52_method_21_12) (pc' := 13) rfl ?_
    refine gStoreI X0 hx (hb hby d_jdk_52_method_21_13) (l' := #[.val (.ref x), .val (.int (0 : Int32)), .val (.ref t), .val (.int (0 : Int32)), .val (.int (2 : Int32)), .val (.int (0 : Int32)), .val (.int c0)]) (pc' := 15) rfl rfl ?_
    refine gLoadI X0 hx (hb hby d_jdk_52_method_21_15) (pc' := 17) rfl rfl ?_
    refine gSipush X0 hx (v := (255 : Int32)) (hb hby d_jdk_52_method_21_17) (pc' := 20) rfl rfl ?_
    refine gIcmpLe X0 hx (hb hby d_jdk_52_method_21_20) (pc' := 26) (by decide) (by decide) (pn := 23) rfl (fun (c20 : c0.toInt ≤ (255 : Int)) => ?_) (fun (c20 : (255 : Int) < c0.toInt) => ?_)
    · refine gLoadAN X0 hx (hb hby d_jdk_52_method_21_26) (pc' := 27) rfl rfl rfl ?_
      refine gLoadIN X0 hx (hb hby d_jdk_52_method_21_27) (pc' := 28) rfl rfl ?_
      refine gLoadI X0 hx (hb hby d_jdk_52_method_21_28) (pc' := 30) rfl rfl ?_
      refine gI2b X0 hx (hb hby d_jdk_52_method_21_30) (pc' := 31) rfl ?_
      refine gBastore X0 hx hZ e0 (x := (c0.toInt8.toInt32)) B (j := (0 : Int32)) (by decide) (by decide) 0 (by decide) (by simp) (hb hby d_jdk_52_method_21_31) (pc' := 32) rfl (fun T1 h1 X1 e1 W1 A1 => ?_)
      have f1_0 := A.other W1 hne
      have zs1 : h0.size ≤ h1.size := by rw [W1.size]; exact (Nat.le_refl _)
      have N1 := Fr.snoc X1 (Fr.nil n0) gt
      have K1 : Keep h0 h1 [t] := (Keep.refl h0 [t]).wr W1 (Or.inl (by simp))
      have V1 : Arv Z h1 t _ .byte (2 : Int32) [(.int (c0.toInt8.toInt32)), (.int (0 : Int32))] (.int 0) := (by have q := A1; rw [own_nb] at q; exact q)
      refine gIinc X1 hx (v := (1 : Int32)) (hb hby d_jdk_52_method_21_32) (l' := #[.val (.ref x), .val (.int (1 : Int32)), .val (.ref t), .val (.int (0 : Int32)), .val (.int (2 : Int32)), .val (.int (0 : Int32)), .val (.int c0)]) (pc' := 35) rfl rfl rfl rfl ?_
      refine gIinc X1 hx (v := (1 : Int32)) (hb hby d_jdk_52_method_21_35) (l' := #[.val (.ref x), .val (.int (1 : Int32)), .val (.ref t), .val (.int (1 : Int32)), .val (.int (2 : Int32)), .val (.int (0 : Int32)), .val (.int c0)]) (pc' := 38) rfl rfl rfl rfl ?_
      refine gIinc X1 hx (v := (1 : Int32)) (hb hby d_jdk_52_method_21_38) (l' := #[.val (.ref x), .val (.int (1 : Int32)), .val (.ref t), .val (.int (1 : Int32)), .val (.int (2 : Int32)), .val (.int (1 : Int32)), .val (.int c0)]) (pc' := 41) rfl rfl rfl rfl ?_
      refine gGoto X1 hx (hb hby d_jdk_52_method_21_41) (pc' := 3) (by decide) (by decide) ?_
      refine gLoadI X1 hx (hb hby d_jdk_52_method_21_3) (pc' := 5) rfl rfl ?_
      refine gLoadI X1 hx (hb hby d_jdk_52_method_21_5) (pc' := 7) rfl rfl ?_
      refine gIcmpGe X1 hx (hb hby d_jdk_52_method_21_7) (pc' := 44) (by decide) (by decide) (pn := 10) rfl (fun (c7' : (2 : Int) ≤ (1 : Int)) => ?_) (fun (c7' : (1 : Int) < (2 : Int)) => ?_)
      · exact absurd c7' (by decide)
      · refine gLoadAN X1 hx (hb hby d_jdk_52_method_21_10) (pc' := 11) rfl rfl rfl ?_
        refine gLoadIN X1 hx (hb hby d_jdk_52_method_21_11) (pc' := 12) rfl rfl ?_
        refine gCaload X1 hx hZ e1 f1_0 (j := (1 : Int32)) (v := (.int c1)) (by decide) (by decide) rfl (hb hby d_jdk_52_method_21_12) (pc' := 13) rfl ?_
        refine gStoreI X1 hx (hb hby d_jdk_52_method_21_13) (l' := #[.val (.ref x), .val (.int (1 : Int32)), .val (.ref t), .val (.int (1 : Int32)), .val (.int (2 : Int32)), .val (.int (1 : Int32)), .val (.int c1)]) (pc' := 15) rfl rfl ?_
        refine gLoadI X1 hx (hb hby d_jdk_52_method_21_15) (pc' := 17) rfl rfl ?_
        refine gSipush X1 hx (v := (255 : Int32)) (hb hby d_jdk_52_method_21_17) (pc' := 20) rfl rfl ?_
        refine gIcmpLe X1 hx (hb hby d_jdk_52_method_21_20) (pc' := 26) (by decide) (by decide) (pn := 23) rfl (fun (c20' : c1.toInt ≤ (255 : Int)) => ?_) (fun (c20' : (255 : Int) < c1.toInt) => ?_)
        · refine gLoadAN X1 hx (hb hby d_jdk_52_method_21_26) (pc' := 27) rfl rfl rfl ?_
          refine gLoadIN X1 hx (hb hby d_jdk_52_method_21_27) (pc' := 28) rfl rfl ?_
          refine gLoadI X1 hx (hb hby d_jdk_52_method_21_28) (pc' := 30) rfl rfl ?_
          refine gI2b X1 hx (hb hby d_jdk_52_method_21_30) (pc' := 31) rfl ?_
          refine gBastore X1 hx hZ e1 (x := (c1.toInt8.toInt32)) V1 (j := (1 : Int32)) (by decide) (by decide) 1 (by decide) (by simp) (hb hby d_jdk_52_method_21_31) (pc' := 32) rfl (fun T2 h2 X2 e2 W2 A2 => ?_)
          have f2_0 := f1_0.other W2 hne
          have zs2 : h0.size ≤ h2.size := by rw [W2.size]; exact zs1
          have N2 := Fr.snoc X2 N1 gt
          have K2 : Keep h0 h2 [t] := K1.wr W2 (Or.inl (by simp))
          have V2 : Arv Z h2 t _ .byte (2 : Int32) [(.int (c0.toInt8.toInt32)), (.int (c1.toInt8.toInt32))] (.int 0) := (by have q := A2; rw [own_nb] at q; exact q)
          refine gIinc X2 hx (v := (1 : Int32)) (hb hby d_jdk_52_method_21_32) (l' := #[.val (.ref x), .val (.int (2 : Int32)), .val (.ref t), .val (.int (1 : Int32)), .val (.int (2 : Int32)), .val (.int (1 : Int32)), .val (.int c1)]) (pc' := 35) rfl rfl rfl rfl ?_
          refine gIinc X2 hx (v := (1 : Int32)) (hb hby d_jdk_52_method_21_35) (l' := #[.val (.ref x), .val (.int (2 : Int32)), .val (.ref t), .val (.int (2 : Int32)), .val (.int (2 : Int32)), .val (.int (1 : Int32)), .val (.int c1)]) (pc' := 38) rfl rfl rfl rfl ?_
          refine gIinc X2 hx (v := (1 : Int32)) (hb hby d_jdk_52_method_21_38) (l' := #[.val (.ref x), .val (.int (2 : Int32)), .val (.ref t), .val (.int (2 : Int32)), .val (.int (2 : Int32)), .val (.int (2 : Int32)), .val (.int c1)]) (pc' := 41) rfl rfl rfl rfl ?_
          refine gGoto X2 hx (hb hby d_jdk_52_method_21_41) (pc' := 3) (by decide) (by decide) ?_
          refine gLoadI X2 hx (hb hby d_jdk_52_method_21_3) (pc' := 5) rfl rfl ?_
          refine gLoadI X2 hx (hb hby d_jdk_52_method_21_5) (pc' := 7) rfl rfl ?_
          refine gIcmpGe X2 hx (hb hby d_jdk_52_method_21_7) (pc' := 44) (by decide) (by decide) (pn := 10) rfl (fun (c7'' : (2 : Int) ≤ (2 : Int)) => ?_) (fun (c7'' : (2 : Int) < (2 : Int)) => ?_)
          · refine gLoadI X2 hx (hb hby d_jdk_52_method_21_44) (pc' := 46) rfl rfl ?_
            exact gRetI X2 hx hlk hret (hb hby d_jdk_52_method_21_46) (by decide) (by decide) (⟨rfl, N2, by rw [e2]; exact K2, by rw [e2]; exact V2⟩)
          · exact absurd c7'' (by decide)
        · exact absurd c20' (by omega)
    · exact absurd c20 (by omega)
theorem ef_c_compress_2 (m : MethodId) (x : Addr) : entryFrame m #[(.ref x), (.int (0 : Int32)), (.int (2 : Int32))] 6 = mkF m 0 #[.val (.ref x), .val (.int (0 : Int32)), .val (.int (2 : Int32)), .unset, .unset, .unset] [] := by first | (simp [entryFrame, mkF, argsToLocals, Value.category]; done) | rfl
set_option maxRecDepth 65536 in
set_option maxHeartbeats 40000000 in
theorem c_compress_2 (l : Launch) (Z : State) (a0 : Array Value) (hw : ∀ d ∈ tables_1, d.before a0 Z = true) (x : Addr) (cx : ClassId) (c0 c1 : Int32) (h0 : Heap) (A : Arv Z h0 x cx .char 2 [.int c0, .int c1] (.int 0)) (hc0 : 0 ≤ c0.toInt ∧ c0.toInt ≤ 255) (hc1 : 0 ≤ c1.toInt ∧ c1.toInt ≤ 255) :
    Ctr l Z (⟨"java/lang/StringUTF16", "compress", "([CII)[B"⟩ : MethodName) jdk_52_method_16_code 6 (some (.array .byte)) [] ({ frames := 1, cells := 1, slots := 2, locals := 18 } : Room) #[(.ref x), (.int (0 : Int32)), (.int (2 : Int32))] h0 (fun v h L => ∃ (t : Addr) (ct : ClassId), v = some (.ref t) ∧ h0.size ≤ t ∧ Fr h0.size L ∧ Keep h0 h [] ∧ Arv Z h t ct .byte 2 [by8 c0, by8 c1] (.int 0)) := by
  refine Ctr.of (plainFor_of_name pn_5) ?_
  intro p e s m below meth c s₁ hx hby hml hret hown hnm hZ hlk X0 e0
  refine Goes.cast (ef_c_compress_2 m x) ?_
  refine gLoadIN X0 hx (hb hby d_jdk_52_method_16_0) (pc' := 1) rfl rfl ?_
  refine gNewP X0 hx hZ (hw _ (List.mem_of_getElem? (i := 16) rfl)) e0 (n := (2 : Int32)) (hb hby d_jdk_52_method_16_1) (by decide) (cap := 2) (by decide) (by decide) (by decide) (by decide) 2 (pc' := 3) rfl (fun T1 h1 b1 ck1 X1 e1 g1 E1 A1 => ?_)
  have ne_x_b1 : x ≠ b1 := Nat.ne_of_lt (Nat.lt_of_lt_of_eq A.lt g1.symm)
  have f1_0 := A.ext E1
  have sz_b1 : h0.size ≤ b1 := Nat.le_trans (Nat.le_refl _) (Nat.le_of_eq g1.symm)
  have zs1 : h0.size ≤ h1.size := Nat.le_trans (Nat.le_refl _) E1.1
  have K1 : Keep h0 h1 [] := (Keep.refl h0 []).ext E1
  have V1 : Arv Z h1 b1 ck1 .byte (2 : Int32) [(.int (0 : Int32)), (.int (0 : Int32))] (.int (0 : Int32)) := A1
  refine gStoreAN X1 hx (hb hby d_jdk_52_method_16_3) (l' := #[.val (.ref x), .val (.int (0 : Int32)), .val (.int (2 : Int32)), .val (.ref b1), .unset, .unset]) (pc' := 4) rfl rfl rfl ?_
  refine gLoadAN X1 hx (hb hby d_jdk_52_method_16_4) (pc' := 5) rfl rfl rfl ?_
  refine gLoadIN X1 hx (hb hby d_jdk_52_method_16_5) (pc' := 6) rfl rfl ?_
  refine gLoadAN X1 hx (hb hby d_jdk_52_method_16_6) (pc' := 7) rfl rfl rfl ?_
  refine gIconst X1 hx (v := (0 : Int32)) (hb hby d_jdk_52_method_16_7) (pc' := 8) rfl rfl ?_
  refine gLoadIN X1 hx (hb hby d_jdk_52_method_16_8) (pc' := 9) rfl rfl ?_
  refine gCallS X1 hx hZ (y := (⟨"java/lang/StringUTF16", "compress", "([CI[BII)I"⟩ : MethodName)) hown e1 (by rw [hml]; rfl) (hw _ (List.mem_of_getElem? (i := 42) rfl)) (hw _ (List.mem_of_getElem? (i := 43) rfl)) (hw _ (List.mem_of_getElem? (i := 40) rfl)) (hw _ (List.mem_of_getElem? (i := 44) rfl)) (by decide) (argsL := [(.ref x), (.int (0 : Int32)), (.ref b1), (.int (0 : Int32)), (.int (2 : Int32))]) (st := []) (c_compress_2i l Z a0 hw x b1 cx ck1 h0.size c0 c1 h1 sz_b1 ne_x_b1 f1_0 V1 hc0 hc1) (lenOf pd_14 rfl) (hb hby d_jdk_52_method_16_9) (pc' := 12) rfl rfl (by decide) (W := 0) (Nat.le_of_eq rfl) (by decide) (by decide) (by decide) ?_
  intro T2 v2 L2 X2 hQ2
  obtain ⟨rfl, Nq2, Kq2, Aq2⟩ := hQ2
  have N2 := Fr.app (Fr.nil h0.size) Nq2
  have K2 : Keep h0 T2.heap [] := K1.trans Kq2 (allS (Or.inr sz_b1) all0)
  refine gStoreI X2 hx (hb hby d_jdk_52_method_16_12) (l' := #[.val (.ref x), .val (.int (0 : Int32)), .val (.int (2 : Int32)), .val (.ref b1), .val (.int (2 : Int32)), .unset]) (pc' := 14) rfl rfl ?_
  refine gLoadI X2 hx (hb hby d_jdk_52_method_16_14) (pc' := 16) rfl rfl ?_
  refine gLoadIN X2 hx (hb hby d_jdk_52_method_16_16) (pc' := 17) rfl rfl ?_
  refine gIcmpEqT X2 hx (hb hby d_jdk_52_method_16_17) (pc' := 57) (by decide) (by decide) (pn := 20) rfl (fun (c17 : (2 : Int) = (2 : Int)) => ?_) (fun (c17 : ¬ (2 : Int) = (2 : Int)) => ?_)
  · refine gLoadAN X2 hx (hb hby d_jdk_52_method_16_57) (pc' := 58) rfl rfl rfl ?_
    exact gRetA X2 hx hlk hret rfl rfl (hb hby d_jdk_52_method_16_58) (by decide) (by decide) (⟨b1, _, rfl, sz_b1, N2, K2, Aq2⟩)
  · exact absurd c17 (by decide)
theorem ef_c_cfal_2 (m : MethodId) (t : Addr) : entryFrame m #[(.ref t), (.int (2 : Int32))] 2 = mkF m 0 #[.val (.ref t), .val (.int (2 : Int32))] [] := by first | (simp [entryFrame, mkF, argsToLocals, Value.category]; done) | rfl
set_option maxRecDepth 65536 in
set_option maxHeartbeats 40000000 in
theorem c_cfal_2 (l : Launch) (Z : State) (a0 : Array Value) (hw : ∀ d ∈ tables_1, d.before a0 Z = true) (t : Addr) (ck : ClassId) (c0 c1 : Int32) (h0 : Heap) (A : Arv Z h0 t ck .byte 2 [by8 c0, by8 c1] (.int 0)) :
    Ctr l Z (⟨"java/lang/StringUTF16", "coderFromArrayLen", "([BI)B"⟩ : MethodName) jdk_52_method_15_code 2 (some .byte) [] ({ frames := 0, cells := 0, slots := 0, locals := 0 } : Room) #[(.ref t), (.int (2 : Int32))] h0 (Just h0 (.int 0)) := by
  refine Ctr.of (plainFor_of_name pn_5) ?_
  intro p e s m below meth c s₁ hx hby hml hret hown hnm hZ hlk X0 e0
  refine Goes.cast (ef_c_cfal_2 m t) ?_
  refine gLoadIN X0 hx (hb hby d_jdk_52_method_15_0) (pc' := 1) rfl rfl ?_
  refine gLoadAN X0 hx (hb hby d_jdk_52_method_15_1) (pc' := 2) rfl rfl rfl ?_
  refine gArrLen X0 hx hZ e0 A (hb hby d_jdk_52_method_15_2) (pc' := 3) rfl ?_
  refine gIsub X0 hx (hb hby d_jdk_52_method_15_3) (pc' := 4) rfl ?_
  show Goes p e below _ s₁ (mkF m 4 #[.val (.ref t), .val (.int (2 : Int32))] [(.int (0 : Int32))])
  refine gBipush X0 hx (v := (31 : Int32)) (hb hby d_jdk_52_method_15_4) (pc' := 6) rfl rfl ?_
  refine gIushr X0 hx (hb hby d_jdk_52_method_15_6) (pc' := 7) rfl ?_
  show Goes p e below _ s₁ (mkF m 7 #[.val (.ref t), .val (.int (2 : Int32))] [(.int (0 : Int32))])
  refine gI2b X0 hx (hb hby d_jdk_52_method_15_7) (pc' := 8) rfl ?_
  show Goes p e below _ s₁ (mkF m 8 #[.val (.ref t), .val (.int (2 : Int32))] [(.int (0 : Int32))])
  exact gRetN X0 hx hlk hret (by simp) (hb hby d_jdk_52_method_15_8) (w := (0 : Int32)) rfl (by decide) (by decide) (⟨rfl, e0, rfl⟩)
theorem ef_c_sinit_2v (m : MethodId) (a : Addr) (x : Addr) : entryFrame m #[(.ref a), (.ref x), (.int (0 : Int32)), (.int (2 : Int32)), .null] 6 = mkF m 0 #[.val (.ref a), .val (.ref x), .val (.int (0 : Int32)), .val (.int (2 : Int32)), .val .null, .unset] [] := by first | (simp [entryFrame, mkF, argsToLocals, Value.category]; done) | rfl
set_option maxRecDepth 65536 in
set_option maxHeartbeats 40000000 in
theorem c_sinit_2v (l : Launch) (Z : State) (a0 : Array Value) (hw : ∀ d ∈ tables_1, d.before a0 Z = true) (a x : Addr) (cx : ClassId) (n0 : Nat) (c0 c1 : Int32) (h0 : Heap) (hCpt : Cpt Z h0) (ga : n0 ≤ a) (gz : n0 ≤ h0.size) (hax : x ≠ a) (E : Exa Z h0 a "java/lang/String") (C : Fld Z h0 a "java/lang/String" "coder" "B" (.int 0)) (V : Fld Z h0 a "java/lang/String" "value" "[B" .null) (A : Arv Z h0 x cx .char 2 [.int c0, .int c1] (.int 0)) (hc0 : 0 ≤ c0.toInt ∧ c0.toInt ≤ 255) (hc1 : 0 ≤ c1.toInt ∧ c1.toInt ≤ 255) :
    Ctr l Z (⟨"java/lang/String", "<init>", "([CIILjava/lang/Void;)V"⟩ : MethodName) jdk_42_method_149_code 6 none [] ({ frames := 2, cells := 1, slots := 2, locals := 37 } : Room) #[(.ref a), (.ref x), (.int (0 : Int32)), (.int (2 : Int32)), .null] h0 (fun v h L => ∃ (t : Addr) (ct : ClassId), v = none ∧ Fr n0 L ∧ Keep h0 h [a] ∧ h0.size ≤ t ∧ Exa Z h a "java/lang/String" ∧ Fld Z h a "java/lang/String" "coder" "B" (.int 0) ∧ Fld Z h a "java/lang/String" "value" "[B" (.ref t) ∧ Arv Z h t ct .byte 2 [by8 c0, by8 c1] (.int 0)) := by
  refine Ctr.of (plainFor_of_name pn_3) ?_
  intro p e s m below meth c s₁ hx hby hml hret hown hnm hZ hlk X0 e0
  refine Goes.cast (ef_c_sinit_2v m a x) ?_
  have hCpt0 := hCpt
  obtain ⟨cz, SC, hcz⟩ := hCpt0
  refine gLoadAN X0 hx (hb hby d_jdk_42_method_149_0) (pc' := 1) rfl rfl rfl ?_
  refine gInitO X0 hx hZ hown (hw _ (List.mem_of_getElem? (i := 12) rfl)) (hw _ (List.mem_of_getElem? (i := 13) rfl)) (hw _ (List.mem_of_getElem? (i := 14) rfl)) e0 (by rw [hml]; rfl) (hb hby d_jdk_42_method_149_1) (pc' := 4) rfl (by decide) (W := 0) (Nat.le_of_eq rfl) (by decide) (fun T1 X1 e1 => ?_)
  refine gLoadIN X1 hx (hb hby d_jdk_42_method_149_4) (pc' := 5) rfl rfl ?_
  refine gIfNeT X1 hx (hb hby d_jdk_42_method_149_5) (pc' := 27) (by decide) (by decide) (pn := 8) rfl (fun (c5 : ¬ (2 : Int) = (0 : Int)) => ?_) (fun (c5 : (2 : Int) = (0 : Int)) => ?_)
  · refine gGetS X1 hx hZ hown (hw _ (List.mem_of_getElem? (i := 37) rfl)) Via.refl e1 SC (hb hby d_jdk_42_method_149_27) (pc' := 30) rfl (fun T2 X2 e2 => ?_)
    refine gIfEqT X2 hx (hb hby d_jdk_42_method_149_30) (pc' := 58) (by decide) (by decide) (pn := 33) rfl (fun (c30 : cz.toInt = (0 : Int)) => ?_) (fun (c30 : ¬ cz.toInt = (0 : Int)) => ?_)
    · exact absurd c30 hcz
    · refine gLoadAN X2 hx (hb hby d_jdk_42_method_149_33) (pc' := 34) rfl rfl rfl ?_
      refine gLoadIN X2 hx (hb hby d_jdk_42_method_149_34) (pc' := 35) rfl rfl ?_
      refine gLoadIN X2 hx (hb hby d_jdk_42_method_149_35) (pc' := 36) rfl rfl ?_
      refine gCallS X2 hx hZ (y := (⟨"java/lang/StringUTF16", "compress", "([CII)[B"⟩ : MethodName)) hown e2 (by rw [hml]; rfl) (hw _ (List.mem_of_getElem? (i := 38) rfl)) (hw _ (List.mem_of_getElem? (i := 39) rfl)) (hw _ (List.mem_of_getElem? (i := 40) rfl)) (hw _ (List.mem_of_getElem? (i := 41) rfl)) (by decide) (argsL := [(.ref x), (.int (0 : Int32)), (.int (2 : Int32))]) (st := []) (c_compress_2 l Z a0 hw x cx c0 c1 h0 A hc0 hc1) (lenOf pd_12 rfl) (hb hby d_jdk_42_method_149_36) (pc' := 39) rfl rfl (by decide) (W := 0) (Nat.le_of_eq rfl) (by decide) (by decide) (by decide) ?_
      intro T3 v3 L3 X3 hQ3
      obtain ⟨t3, ct3, rfl, gt3, Nq3, Kq3, Aq3⟩ := hQ3
      have N3 := Fr.app (Fr.nil n0) (fun y hy => Nat.le_trans gz (Nq3 y hy))
      have K3 : Keep h0 T3.heap [a] := (Keep.refl h0 [a]).trans Kq3 all0
      have f3_0 := own_sta_keep SC Kq3 ns0
      have f3_1 := E.keep Kq3
      have f3_2 := C.keep Kq3 nin0
      have f3_3 := V.keep Kq3 nin0
      have nt3 : t3 ≠ a := Ne.symm (Nat.ne_of_lt (Nat.lt_of_lt_of_le E.lt gt3))
      refine gStoreA X3 hx (hb hby d_jdk_42_method_149_39) (l' := #[.val (.ref a), .val (.ref x), .val (.int (0 : Int32)), .val (.int (2 : Int32)), .val .null, .val (.ref t3)]) (pc' := 41) rfl rfl rfl ?_
      refine gLoadAN X3 hx (hb hby d_jdk_42_method_149_41) (pc' := 42) rfl rfl rfl ?_
      refine gLoadA X3 hx (hb hby d_jdk_42_method_149_42) (pc' := 44) rfl rfl rfl ?_
      refine gLoadIN X3 hx (hb hby d_jdk_42_method_149_44) (pc' := 45) rfl rfl ?_
      refine gCallSJ X3 hx hZ (y := (⟨"java/lang/StringUTF16", "coderFromArrayLen", "([BI)B"⟩ : MethodName)) hown rfl (by rw [hml]; rfl) (hw _ (List.mem_of_getElem? (i := 45) rfl)) (hw _ (List.mem_of_getElem? (i := 46) rfl)) (hw _ (List.mem_of_getElem? (i := 40) rfl)) (hw _ (List.mem_of_getElem? (i := 47) rfl)) (by decide) (argsL := [(.ref t3), (.int (2 : Int32))]) (st := [(.ref a)]) (c_cfal_2 l Z a0 hw t3 ct3 c0 c1 _ Aq3) (lenOf pd_9 rfl) (hb hby d_jdk_42_method_149_45) (pc' := 48) rfl rfl rfl rfl (by decide) (W := 1) (Nat.le_of_eq rfl) (by decide) (by decide) (by decide) ?_
      intro T4 X4 e4
      refine gPutF X4 hx hZ hown (hw _ (List.mem_of_getElem? (i := 22) rfl)) Via.refl e4 f3_2 f3_1 (Or.inr ⟨(hw _ (List.mem_of_getElem? (i := 18) rfl)), rfl, hnm⟩) (hw _ (List.mem_of_getElem? (i := 3) rfl)) (ty := .byte) (by decide) rfl rfl (hb hby d_jdk_42_method_149_48) (pc' := 51) rfl (fun T5 h5 X5 e5 W5 => ?_)
      have f5_0 := f3_0.wr W5
      have f5_1 := f3_1.wr W5
      have f5_2 := f3_2.same W5
      have f5_3 := f3_3.other W5 (Or.inr (slot_ne (Or.inr (hw _ (List.mem_of_getElem? (i := 17) rfl))) (Or.inr (hw _ (List.mem_of_getElem? (i := 18) rfl))) (by decide) (t := (.array .byte)) (t' := .byte) (by decide) (by decide)))
      have f5_4 := Aq3.other W5 nt3
      have zs5 : h0.size ≤ h5.size := by rw [W5.size]; exact Kq3.1
      have N5 := Fr.snoc X5 N3 ga
      have K5 : Keep h0 h5 [a] := K3.wr W5 (Or.inl (by simp))
      refine gLoadAN X5 hx (hb hby d_jdk_42_method_149_51) (pc' := 52) rfl rfl rfl ?_
      refine gLoadA X5 hx (hb hby d_jdk_42_method_149_52) (pc' := 54) rfl rfl rfl ?_
      refine gPutF X5 hx hZ hown (hw _ (List.mem_of_getElem? (i := 21) rfl)) Via.refl e5 f5_3 f5_1 (Or.inr ⟨(hw _ (List.mem_of_getElem? (i := 17) rfl)), rfl, hnm⟩) (hw _ (List.mem_of_getElem? (i := 3) rfl)) (ty := (.array .byte)) (by decide) rfl rfl (hb hby d_jdk_42_method_149_54) (pc' := 57) rfl (fun T6 h6 X6 e6 W6 => ?_)
      have f6_0 := f5_0.wr W6
      have f6_1 := f5_1.wr W6
      have f6_2 := f5_2.other W6 (Or.inr (slot_ne (Or.inr (hw _ (List.mem_of_getElem? (i := 18) rfl))) (Or.inr (hw _ (List.mem_of_getElem? (i := 17) rfl))) (by decide) (t := .byte) (t' := (.array .byte)) (by decide) (by decide)))
      have f6_3 := f5_3.same W6
      have f6_4 := f5_4.other W6 nt3
      have zs6 : h0.size ≤ h6.size := by rw [W6.size]; exact zs5
      have N6 := Fr.snoc X6 N5 ga
      have K6 : Keep h0 h6 [a] := K5.wr W6 (Or.inl (by simp))
      exact gRetV X6 hx hlk hret (hb hby d_jdk_42_method_149_57) (by decide) (by decide) (⟨t3, ct3, rfl, N6, by rw [e6]; exact K6, gt3, by rw [e6]; exact f6_1, by rw [e6]; exact f6_2, by rw [e6]; exact f6_3, by rw [e6]; exact f6_4⟩)
  · exact absurd c5 (by decide)
theorem ef_c_sinit_2 (m : MethodId) (a : Addr) (x : Addr) : entryFrame m #[(.ref a), (.ref x)] 2 = mkF m 0 #[.val (.ref a), .val (.ref x)] [] := by first | (simp [entryFrame, mkF, argsToLocals, Value.category]; done) | rfl
set_option maxRecDepth 65536 in
set_option maxHeartbeats 40000000 in
theorem c_sinit_2 (l : Launch) (Z : State) (a0 : Array Value) (hw : ∀ d ∈ tables_1, d.before a0 Z = true) (a x : Addr) (cx : ClassId) (n0 : Nat) (c0 c1 : Int32) (h0 : Heap) (hCpt : Cpt Z h0) (ga : n0 ≤ a) (gz : n0 ≤ h0.size) (hax : x ≠ a) (E : Exa Z h0 a "java/lang/String") (C : Fld Z h0 a "java/lang/String" "coder" "B" (.int 0)) (V : Fld Z h0 a "java/lang/String" "value" "[B" .null) (A : Arv Z h0 x cx .char 2 [.int c0, .int c1] (.int 0)) (hc0 : 0 ≤ c0.toInt ∧ c0.toInt ≤ 255) (hc1 : 0 ≤ c1.toInt ∧ c1.toInt ≤ 255) :
    Ctr l Z (⟨"java/lang/String", "<init>", "([C)V"⟩ : MethodName) jdk_42_method_3_code 2 none [] ({ frames := 3, cells := 1, slots := 2, locals := 54 } : Room) #[(.ref a), (.ref x)] h0 (fun v h L => ∃ (t : Addr) (ct : ClassId), v = none ∧ Fr n0 L ∧ Keep h0 h [a] ∧ h0.size ≤ t ∧ Exa Z h a "java/lang/String" ∧ Fld Z h a "java/lang/String" "coder" "B" (.int 0) ∧ Fld Z h a "java/lang/String" "value" "[B" (.ref t) ∧ Arv Z h t ct .byte 2 [by8 c0, by8 c1] (.int 0)) := by
  refine Ctr.of (plainFor_of_name pn_3) ?_
  intro p e s m below meth c s₁ hx hby hml hret hown hnm hZ hlk X0 e0
  refine Goes.cast (ef_c_sinit_2 m a x) ?_
  refine gLoadAN X0 hx (hb hby d_jdk_42_method_3_0) (pc' := 1) rfl rfl rfl ?_
  refine gLoadAN X0 hx (hb hby d_jdk_42_method_3_1) (pc' := 2) rfl rfl rfl ?_
  refine gIconst X0 hx (v := (0 : Int32)) (hb hby d_jdk_42_method_3_2) (pc' := 3) rfl rfl ?_
  refine gLoadAN X0 hx (hb hby d_jdk_42_method_3_3) (pc' := 4) rfl rfl rfl ?_
  refine gArrLen X0 hx hZ e0 A (hb hby d_jdk_42_method_3_4) (pc' := 5) rfl ?_
  refine gNull X0 hx (hb hby d_jdk_42_method_3_5) (pc' := 6) rfl ?_
  refine gCallI X0 hx hZ (y := (⟨"java/lang/String", "<init>", "([CIILjava/lang/Void;)V"⟩ : MethodName)) rfl hown e0 (by rw [hml]; rfl) (hw _ (List.mem_of_getElem? (i := 8) rfl)) (hw _ (List.mem_of_getElem? (i := 9) rfl)) (hw _ (List.mem_of_getElem? (i := 4) rfl)) (hw _ (List.mem_of_getElem? (i := 11) rfl)) (by decide) (argsL := [(.ref x), (.int (0 : Int32)), (.int (2 : Int32)), .null]) (st := []) (c_sinit_2v l Z a0 hw a x cx n0 c0 c1 h0 hCpt ga gz hax E C V A hc0 hc1) (lenOf pd_13 rfl) (hb hby d_jdk_42_method_3_6) (pc' := 9) rfl rfl (by decide) (W := 0) (Nat.le_of_eq rfl) (by decide) (by decide) (by decide) ?_
  intro T1 v1 L1 X1 hQ1
  obtain ⟨t, ct, rfl, Nq, Kq, gt, Eq, Cq, Vq, Aq⟩ := hQ1
  exact gRetV X1 hx hlk hret (hb hby d_jdk_42_method_3_9) (by decide) (by decide) (⟨t, ct, rfl, Nq, Kq, gt, Eq, Cq, Vq, Aq⟩)
theorem ef_c_compress_3i (m : MethodId) (x : Addr) (t : Addr) : entryFrame m #[(.ref x), (.int (0 : Int32)), (.ref t), (.int (0 : Int32)), (.int (3 : Int32))] 7 = mkF m 0 #[.val (.ref x), .val (.int (0 : Int32)), .val (.ref t), .val (.int (0 : Int32)), .val (.int (3 : Int32)), .unset, .unset] [] := by first | (simp [entryFrame, mkF, argsToLocals, Value.category]; done) | rfl
set_option maxRecDepth 65536 in
set_option maxHeartbeats 40000000 in
theorem c_compress_3i (l : Launch) (Z : State) (a0 : Array Value) (hw : ∀ d ∈ tables_1, d.before a0 Z = true) (x t : Addr) (cx ct : ClassId) (n0 : Nat) (c0 c1 c2 : Int32) (h0 : Heap) (gt : n0 ≤ t) (hne : x ≠ t) (A : Arv Z h0 x cx .char 3 [.int c0, .int c1, .int c2] (.int 0)) (B : Arv Z h0 t ct .byte 3 [.int 0, .int 0, .int 0] (.int 0)) (hc0 : 0 ≤ c0.toInt ∧ c0.toInt ≤ 255) (hc1 : 0 ≤ c1.toInt ∧ c1.toInt ≤ 255) (hc2 : 0 ≤ c2.toInt ∧ c2.toInt ≤ 255) :
    Ctr l Z (⟨"java/lang/StringUTF16", "compress", "([CI[BII)I"⟩ : MethodName) jdk_52_method_21_code 7 (some .int) [] ({ frames := 0, cells := 0, slots := 0, locals := 0 } : Room) #[(.ref x), (.int (0 : Int32)), (.ref t), (.int (0 : Int32)), (.int (3 : Int32))] h0 (fun v h L => v = some (.int 3) ∧ Fr n0 L ∧ Keep h0 h [t] ∧ Arv Z h t ct .byte 3 [by8 c0, by8 c1, by8 c2] (.int 0)) := by
  refine Ctr.of (plainFor_of_name pn_5) ?_
  intro p e s m below meth c s₁ hx hby hml hret hown hnm hZ hlk X0 e0
  refine Goes.cast (ef_c_compress_3i m x t) ?_
  refine gIconst X0 hx (v := (0 : Int32)) (hb hby d_jdk_52_method_21_0) (pc' := 1) rfl rfl ?_
  refine gStoreI X0 hx (hb hby d_jdk_52_method_21_1) (l' := #[.val (.ref x), .val (.int (0 : Int32)), .val (.ref t), .val (.int (0 : Int32)), .val (.int (3 : Int32)), .val (.int (0 : Int32)), .unset]) (pc' := 3) rfl rfl ?_
  refine gLoadI X0 hx (hb hby d_jdk_52_method_21_3) (pc' := 5) rfl rfl ?_
  refine gLoadI X0 hx (hb hby d_jdk_52_method_21_5) (pc' := 7) rfl rfl ?_
  refine gIcmpGe X0 hx (hb hby d_jdk_52_method_21_7) (pc' := 44) (by decide) (by decide) (pn := 10) rfl (fun (c7 : (3 : Int) ≤ (0 : Int)) => ?_) (fun (c7 : (0 : Int) < (3 : Int)) => ?_)
  · exact absurd c7 (by decide)
  · refine gLoadAN X0 hx (hb hby d_jdk_52_method_21_10) (pc' := 11) rfl rfl rfl ?_
    refine gLoadIN X0 hx (hb hby d_jdk_52_method_21_11) (pc' := 12) rfl rfl ?_
    refine gCaload X0 hx hZ e0 A (j := (0 : Int32)) (v := (.int c0)) (by decide) (by decide) rfl (hb hby d_jdk_52_method_21_12) (pc' := 13) rfl ?_
    refine gStoreI X0 hx (hb hby d_jdk_52_method_21_13) (l' := #[.val (.ref x), .val (.int (0 : Int32)), .val (.ref t), .val (.int (0 : Int32)), .val (.int (3 : Int32)), .val (.int (0 : Int32)), .val (.int c0)]) (pc' := 15) rfl rfl ?_
    refine gLoadI X0 hx (hb hby d_jdk_52_method_21_15) (pc' := 17) rfl rfl ?_
    refine gSipush X0 hx (v := (255 : Int32)) (hb hby d_jdk_52_method_21_17) (pc' := 20) rfl rfl ?_
    refine gIcmpLe X0 hx (hb hby d_jdk_52_method_21_20) (pc' := 26) (by decide) (by decide) (pn := 23) rfl (fun (c20 : c0.toInt ≤ (255 : Int)) => ?_) (fun (c20 : (255 : Int) < c0.toInt) => ?_)
    · refine gLoadAN X0 hx (hb hby d_jdk_52_method_21_26) (pc' := 27) rfl rfl rfl ?_
      refine gLoadIN X0 hx (hb hby d_jdk_52_method_21_27) (pc' := 28) rfl rfl ?_
      refine gLoadI X0 hx (hb hby d_jdk_52_method_21_28) (pc' := 30) rfl rfl ?_
      refine gI2b X0 hx (hb hby d_jdk_52_method_21_30) (pc' := 31) rfl ?_
      refine gBastore X0 hx hZ e0 (x := (c0.toInt8.toInt32)) B (j := (0 : Int32)) (by decide) (by decide) 0 (by decide) (by simp) (hb hby d_jdk_52_method_21_31) (pc' := 32) rfl (fun T1 h1 X1 e1 W1 A1 => ?_)
      have f1_0 := A.other W1 hne
      have zs1 : h0.size ≤ h1.size := by rw [W1.size]; exact (Nat.le_refl _)
      have N1 := Fr.snoc X1 (Fr.nil n0) gt
      have K1 : Keep h0 h1 [t] := (Keep.refl h0 [t]).wr W1 (Or.inl (by simp))
      have V1 : Arv Z h1 t _ .byte (3 : Int32) [(.int (c0.toInt8.toInt32)), (.int (0 : Int32)), (.int (0 : Int32))] (.int 0) := (by have q := A1; rw [own_nb] at q; exact q)
      refine gIinc X1 hx (v := (1 : Int32)) (hb hby d_jdk_52_method_21_32) (l' := #[.val (.ref x), .val (.int (1 : Int32)), .val (.ref t), .val (.int (0 : Int32)), .val (.int (3 : Int32)), .val (.int (0 : Int32)), .val (.int c0)]) (pc' := 35) rfl rfl rfl rfl ?_
      refine gIinc X1 hx (v := (1 : Int32)) (hb hby d_jdk_52_method_21_35) (l' := #[.val (.ref x), .val (.int (1 : Int32)), .val (.ref t), .val (.int (1 : Int32)), .val (.int (3 : Int32)), .val (.int (0 : Int32)), .val (.int c0)]) (pc' := 38) rfl rfl rfl rfl ?_
      refine gIinc X1 hx (v := (1 : Int32)) (hb hby d_jdk_52_method_21_38) (l' := #[.val (.ref x), .val (.int (1 : Int32)), .val (.ref t), .val (.int (1 : Int32)), .val (.int (3 : Int32)), .val (.int (1 : Int32)), .val (.int c0)]) (pc' := 41) rfl rfl rfl rfl ?_
      refine gGoto X1 hx (hb hby d_jdk_52_method_21_41) (pc' := 3) (by decide) (by decide) ?_
      refine gLoadI X1 hx (hb hby d_jdk_52_method_21_3) (pc' := 5) rfl rfl ?_
      refine gLoadI X1 hx (hb hby d_jdk_52_method_21_5) (pc' := 7) rfl rfl ?_
      refine gIcmpGe X1 hx (hb hby d_jdk_52_method_21_7) (pc' := 44) (by decide) (by decide) (pn := 10) rfl (fun (c7' : (3 : Int) ≤ (1 : Int)) => ?_) (fun (c7' : (1 : Int) < (3 : Int)) => ?_)
      · exact absurd c7' (by decide)
      · refine gLoadAN X1 hx (hb hby d_jdk_52_method_21_10) (pc' := 11) rfl rfl rfl ?_
        refine gLoadIN X1 hx (hb hby d_jdk_52_method_21_11) (pc' := 12) rfl rfl ?_
        refine gCaload X1 hx hZ e1 f1_0 (j := (1 : Int32)) (v := (.int c1)) (by decide) (by decide) rfl (hb hby d_jdk_52_method_21_12) (pc' := 13) rfl ?_
        refine gStoreI X1 hx (hb hby d_jdk_52_method_21_13) (l' := #[.val (.ref x), .val (.int (1 : Int32)), .val (.ref t), .val (.int (1 : Int32)), .val (.int (3 : Int32)), .val (.int (1 : Int32)), .val (.int c1)]) (pc' := 15) rfl rfl ?_
        refine gLoadI X1 hx (hb hby d_jdk_52_method_21_15) (pc' := 17) rfl rfl ?_
        refine gSipush X1 hx (v := (255 : Int32)) (hb hby d_jdk_52_method_21_17) (pc' := 20) rfl rfl ?_
        refine gIcmpLe X1 hx (hb hby d_jdk_52_method_21_20) (pc' := 26) (by decide) (by decide) (pn := 23) rfl (fun (c20' : c1.toInt ≤ (255 : Int)) => ?_) (fun (c20' : (255 : Int) < c1.toInt) => ?_)
        · refine gLoadAN X1 hx (hb hby d_jdk_52_method_21_26) (pc' := 27) rfl rfl rfl ?_
          refine gLoadIN X1 hx (hb hby d_jdk_52_method_21_27) (pc' := 28) rfl rfl ?_
          refine gLoadI X1 hx (hb hby d_jdk_52_method_21_28) (pc' := 30) rfl rfl ?_
          refine gI2b X1 hx (hb hby d_jdk_52_method_21_30) (pc' := 31) rfl ?_
          refine gBastore X1 hx hZ e1 (x := (c1.toInt8.toInt32)) V1 (j := (1 : Int32)) (by decide) (by decide) 1 (by decide) (by simp) (hb hby d_jdk_52_method_21_31) (pc' := 32) rfl (fun T2 h2 X2 e2 W2 A2 => ?_)
          have f2_0 := f1_0.other W2 hne
          have zs2 : h0.size ≤ h2.size := by rw [W2.size]; exact zs1
          have N2 := Fr.snoc X2 N1 gt
          have K2 : Keep h0 h2 [t] := K1.wr W2 (Or.inl (by simp))
          have V2 : Arv Z h2 t _ .byte (3 : Int32) [(.int (c0.toInt8.toInt32)), (.int (c1.toInt8.toInt32)), (.int (0 : Int32))] (.int 0) := (by have q := A2; rw [own_nb] at q; exact q)
          refine gIinc X2 hx (v := (1 : Int32)) (hb hby d_jdk_52_method_21_32) (l' := #[.val (.ref x), .val (.int (2 : Int32)), .val (.ref t), .val (.int (1 : Int32)), .val (.int (3 : Int32)), .val (.int (1 : Int32)), .val (.int c1)]) (pc' := 35) rfl rfl rfl rfl ?_
          refine gIinc X2 hx (v := (1 : Int32)) (hb hby d_jdk_52_method_21_35) (l' := #[.val (.ref x), .val (.int (2 : Int32)), .val (.ref t), .val (.int (2 : Int32)), .val (.int (3 : Int32)), .val (.int (1 : Int32)), .val (.int c1)]) (pc' := 38) rfl rfl rfl rfl ?_
          refine gIinc X2 hx (v := (1 : Int32)) (hb hby d_jdk_52_method_21_38) (l' := #[.val (.ref x), .val (.int (2 : Int32)), .val (.ref t), .val (.int (2 : Int32)), .val (.int (3 : Int32)), .val (.int (2 : Int32)), .val (.int c1)]) (pc' := 41) rfl rfl rfl rfl ?_
          refine gGoto X2 hx (hb hby d_jdk_52_method_21_41) (pc' := 3) (by decide) (by decide) ?_
          refine gLoadI X2 hx (hb hby d_jdk_52_method_21_3) (pc' := 5) rfl rfl ?_
          refine gLoadI X2 hx (hb hby d_jdk_52_method_21_5) (pc' := 7) rfl rfl ?_
          refine gIcmpGe X2 hx (hb hby d_jdk_52_method_21_7) (pc' := 44) (by decide) (by decide) (pn := 10) rfl (fun (c7'' : (3 : Int) ≤ (2 : Int)) => ?_) (fun (c7'' : (2 : Int) < (3 : Int)) => ?_)
          · exact absurd c7'' (by decide)
          · refine gLoadAN X2 hx (hb hby d_jdk_52_method_21_10) (pc' := 11) rfl rfl rfl ?_
            refine gLoadIN X2 hx (hb hby d_jdk_52_method_21_11) (pc' := 12) rfl rfl ?_
            refine gCaload X2 hx hZ e2 f2_0 (j := (2 : Int32)) (v := (.int c2)) (by decide) (by decide) rfl (hb hby d_jdk_52_method_21_12) (pc' := 13) rfl ?_
            refine gStoreI X2 hx (hb hby d_jdk_52_method_21_13) (l' := #[.val (.ref x), .val (.int (2 : Int32)), .val (.ref t), .val (.int (2 : Int32)), .val (.int (3 : Int32)), .val (.int (2 : Int32)), .val (.int c2)]) (pc' := 15) rfl rfl ?_
            refine gLoadI X2 hx (hb hby d_jdk_52_method_21_15) (pc' := 17) rfl rfl ?_
            refine gSipush X2 hx (v := (255 : Int32)) (hb hby d_jdk_52_method_21_17) (pc' := 20) rfl rfl ?_
            refine gIcmpLe X2 hx (hb hby d_jdk_52_method_21_20) (pc' := 26) (by decide) (by decide) (pn := 23) rfl (fun (c20'' : c2.toInt ≤ (255 : Int)) => ?_) (fun (c20'' : (255 : Int) < c2.toInt) => ?_)
            · refine gLoadAN X2 hx (hb hby d_jdk_52_method_21_26) (pc' := 27) rfl rfl rfl ?_
              refine gLoadIN X2 hx (hb hby d_jdk_52_method_21_27) (pc' := 28) rfl rfl ?_
              refine gLoadI X2 hx (hb hby d_jdk_52_method_21_28) (pc' := 30) rfl rfl ?_
              refine gI2b X2 hx (hb hby d_jdk_52_method_21_30) (pc' := 31) rfl ?_
              refine gBastore X2 hx hZ e2 (x := (c2.toInt8.toInt32)) V2 (j := (2 : Int32)) (by decide) (by decide) 2 (by decide) (by simp) (hb hby d_jdk_52_method_21_31) (pc' := 32) rfl (fun T3 h3 X3 e3 W3 A3 => ?_)
              have f3_0 := f2_0.other W3 hne
              have zs3 : h0.size ≤ h3.size := by rw [W3.size]; exact zs2
              have N3 := Fr.snoc X3 N2 gt
              have K3 : Keep h0 h3 [t] := K2.wr W3 (Or.inl (by simp))
              have V3 : Arv Z h3 t _ .byte (3 : Int32) [(.int (c0.toInt8.toInt32)), (.int (c1.toInt8.toInt32)), (.int (c2.toInt8.toInt32))] (.int 0) := (by have q := A3; rw [own_nb] at q; exact q)
              refine gIinc X3 hx (v := (1 : Int32)) (hb hby d_jdk_52_method_21_32) (l' := #[.val (.ref x), .val (.int (3 : Int32)), .val (.ref t), .val (.int (2 : Int32)), .val (.int (3 : Int32)), .val (.int (2 : Int32)), .val (.int c2)]) (pc' := 35) rfl rfl rfl rfl ?_
              refine gIinc X3 hx (v := (1 : Int32)) (hb hby d_jdk_52_method_21_35) (l' := #[.val (.ref x), .val (.int (3 : Int32)), .val (.ref t), .val (.int (3 : Int32)), .val (.int (3 : Int32)), .val (.int (2 : Int32)), .val (.int c2)]) (pc' := 38) rfl rfl rfl rfl ?_
              refine gIinc X3 hx (v := (1 : Int32)) (hb hby d_jdk_52_method_21_38) (l' := #[.val (.ref x), .val (.int (3 : Int32)), .val (.ref t), .val (.int (3 : Int32)), .val (.int (3 : Int32)), .val (.int (3 : Int32)), .val (.int c2)]) (pc' := 41) rfl rfl rfl rfl ?_
              refine gGoto X3 hx (hb hby d_jdk_52_method_21_41) (pc' := 3) (by decide) (by decide) ?_
              refine gLoadI X3 hx (hb hby d_jdk_52_method_21_3) (pc' := 5) rfl rfl ?_
              refine gLoadI X3 hx (hb hby d_jdk_52_method_21_5) (pc' := 7) rfl rfl ?_
              refine gIcmpGe X3 hx (hb hby d_jdk_52_method_21_7) (pc' := 44) (by decide) (by decide) (pn := 10) rfl (fun (c7''' : (3 : Int) ≤ (3 : Int)) => ?_) (fun (c7''' : (3 : Int) < (3 : Int)) => ?_)
              · refine gLoadI X3 hx (hb hby d_jdk_52_method_21_44) (pc' := 46) rfl rfl ?_
                exact gRetI X3 hx hlk hret (hb hby d_jdk_52_method_21_46) (by decide) (by decide) (⟨rfl, N3, by rw [e3]; exact K3, by rw [e3]; exact V3⟩)
              · exact absurd c7''' (by decide)
            · exact absurd c20'' (by omega)
        · exact absurd c20' (by omega)
    · exact absurd c20 (by omega)
theorem ef_c_compress_3 (m : MethodId) (x : Addr) : entryFrame m #[(.ref x), (.int (0 : Int32)), (.int (3 : Int32))] 6 = mkF m 0 #[.val (.ref x), .val (.int (0 : Int32)), .val (.int (3 : Int32)), .unset, .unset, .unset] [] := by first | (simp [entryFrame, mkF, argsToLocals, Value.category]; done) | rfl
set_option maxRecDepth 65536 in
set_option maxHeartbeats 40000000 in
theorem c_compress_3 (l : Launch) (Z : State) (a0 : Array Value) (hw : ∀ d ∈ tables_1, d.before a0 Z = true) (x : Addr) (cx : ClassId) (c0 c1 c2 : Int32) (h0 : Heap) (A : Arv Z h0 x cx .char 3 [.int c0, .int c1, .int c2] (.int 0)) (hc0 : 0 ≤ c0.toInt ∧ c0.toInt ≤ 255) (hc1 : 0 ≤ c1.toInt ∧ c1.toInt ≤ 255) (hc2 : 0 ≤ c2.toInt ∧ c2.toInt ≤ 255) :
    Ctr l Z (⟨"java/lang/StringUTF16", "compress", "([CII)[B"⟩ : MethodName) jdk_52_method_16_code 6 (some (.array .byte)) [] ({ frames := 1, cells := 1, slots := 3, locals := 18 } : Room) #[(.ref x), (.int (0 : Int32)), (.int (3 : Int32))] h0 (fun v h L => ∃ (t : Addr) (ct : ClassId), v = some (.ref t) ∧ h0.size ≤ t ∧ Fr h0.size L ∧ Keep h0 h [] ∧ Arv Z h t ct .byte 3 [by8 c0, by8 c1, by8 c2] (.int 0)) := by
  refine Ctr.of (plainFor_of_name pn_5) ?_
  intro p e s m below meth c s₁ hx hby hml hret hown hnm hZ hlk X0 e0
  refine Goes.cast (ef_c_compress_3 m x) ?_
  refine gLoadIN X0 hx (hb hby d_jdk_52_method_16_0) (pc' := 1) rfl rfl ?_
  refine gNewP X0 hx hZ (hw _ (List.mem_of_getElem? (i := 16) rfl)) e0 (n := (3 : Int32)) (hb hby d_jdk_52_method_16_1) (by decide) (cap := 3) (by decide) (by decide) (by decide) (by decide) 3 (pc' := 3) rfl (fun T1 h1 b1 ck1 X1 e1 g1 E1 A1 => ?_)
  have ne_x_b1 : x ≠ b1 := Nat.ne_of_lt (Nat.lt_of_lt_of_eq A.lt g1.symm)
  have f1_0 := A.ext E1
  have sz_b1 : h0.size ≤ b1 := Nat.le_trans (Nat.le_refl _) (Nat.le_of_eq g1.symm)
  have zs1 : h0.size ≤ h1.size := Nat.le_trans (Nat.le_refl _) E1.1
  have K1 : Keep h0 h1 [] := (Keep.refl h0 []).ext E1
  have V1 : Arv Z h1 b1 ck1 .byte (3 : Int32) [(.int (0 : Int32)), (.int (0 : Int32)), (.int (0 : Int32))] (.int (0 : Int32)) := A1
  refine gStoreAN X1 hx (hb hby d_jdk_52_method_16_3) (l' := #[.val (.ref x), .val (.int (0 : Int32)), .val (.int (3 : Int32)), .val (.ref b1), .unset, .unset]) (pc' := 4) rfl rfl rfl ?_
  refine gLoadAN X1 hx (hb hby d_jdk_52_method_16_4) (pc' := 5) rfl rfl rfl ?_
  refine gLoadIN X1 hx (hb hby d_jdk_52_method_16_5) (pc' := 6) rfl rfl ?_
  refine gLoadAN X1 hx (hb hby d_jdk_52_method_16_6) (pc' := 7) rfl rfl rfl ?_
  refine gIconst X1 hx (v := (0 : Int32)) (hb hby d_jdk_52_method_16_7) (pc' := 8) rfl rfl ?_
  refine gLoadIN X1 hx (hb hby d_jdk_52_method_16_8) (pc' := 9) rfl rfl ?_
  refine gCallS X1 hx hZ (y := (⟨"java/lang/StringUTF16", "compress", "([CI[BII)I"⟩ : MethodName)) hown e1 (by rw [hml]; rfl) (hw _ (List.mem_of_getElem? (i := 42) rfl)) (hw _ (List.mem_of_getElem? (i := 43) rfl)) (hw _ (List.mem_of_getElem? (i := 40) rfl)) (hw _ (List.mem_of_getElem? (i := 44) rfl)) (by decide) (argsL := [(.ref x), (.int (0 : Int32)), (.ref b1), (.int (0 : Int32)), (.int (3 : Int32))]) (st := []) (c_compress_3i l Z a0 hw x b1 cx ck1 h0.size c0 c1 c2 h1 sz_b1 ne_x_b1 f1_0 V1 hc0 hc1 hc2) (lenOf pd_14 rfl) (hb hby d_jdk_52_method_16_9) (pc' := 12) rfl rfl (by decide) (W := 0) (Nat.le_of_eq rfl) (by decide) (by decide) (by decide) ?_
  intro T2 v2 L2 X2 hQ2
  obtain ⟨rfl, Nq2, Kq2, Aq2⟩ := hQ2
  have N2 := Fr.app (Fr.nil h0.size) Nq2
  have K2 : Keep h0 T2.heap [] := K1.trans Kq2 (allS (Or.inr sz_b1) all0)
  refine gStoreI X2 hx (hb hby d_jdk_52_method_16_12) (l' := #[.val (.ref x), .val (.int (0 : Int32)), .val (.int (3 : Int32)), .val (.ref b1), .val (.int (3 : Int32)), .unset]) (pc' := 14) rfl rfl ?_
  refine gLoadI X2 hx (hb hby d_jdk_52_method_16_14) (pc' := 16) rfl rfl ?_
  refine gLoadIN X2 hx (hb hby d_jdk_52_method_16_16) (pc' := 17) rfl rfl ?_
  refine gIcmpEqT X2 hx (hb hby d_jdk_52_method_16_17) (pc' := 57) (by decide) (by decide) (pn := 20) rfl (fun (c17 : (3 : Int) = (3 : Int)) => ?_) (fun (c17 : ¬ (3 : Int) = (3 : Int)) => ?_)
  · refine gLoadAN X2 hx (hb hby d_jdk_52_method_16_57) (pc' := 58) rfl rfl rfl ?_
    exact gRetA X2 hx hlk hret rfl rfl (hb hby d_jdk_52_method_16_58) (by decide) (by decide) (⟨b1, _, rfl, sz_b1, N2, K2, Aq2⟩)
  · exact absurd c17 (by decide)
theorem ef_c_cfal_3 (m : MethodId) (t : Addr) : entryFrame m #[(.ref t), (.int (3 : Int32))] 2 = mkF m 0 #[.val (.ref t), .val (.int (3 : Int32))] [] := by first | (simp [entryFrame, mkF, argsToLocals, Value.category]; done) | rfl
set_option maxRecDepth 65536 in
set_option maxHeartbeats 40000000 in
theorem c_cfal_3 (l : Launch) (Z : State) (a0 : Array Value) (hw : ∀ d ∈ tables_1, d.before a0 Z = true) (t : Addr) (ck : ClassId) (c0 c1 c2 : Int32) (h0 : Heap) (A : Arv Z h0 t ck .byte 3 [by8 c0, by8 c1, by8 c2] (.int 0)) :
    Ctr l Z (⟨"java/lang/StringUTF16", "coderFromArrayLen", "([BI)B"⟩ : MethodName) jdk_52_method_15_code 2 (some .byte) [] ({ frames := 0, cells := 0, slots := 0, locals := 0 } : Room) #[(.ref t), (.int (3 : Int32))] h0 (Just h0 (.int 0)) := by
  refine Ctr.of (plainFor_of_name pn_5) ?_
  intro p e s m below meth c s₁ hx hby hml hret hown hnm hZ hlk X0 e0
  refine Goes.cast (ef_c_cfal_3 m t) ?_
  refine gLoadIN X0 hx (hb hby d_jdk_52_method_15_0) (pc' := 1) rfl rfl ?_
  refine gLoadAN X0 hx (hb hby d_jdk_52_method_15_1) (pc' := 2) rfl rfl rfl ?_
  refine gArrLen X0 hx hZ e0 A (hb hby d_jdk_52_method_15_2) (pc' := 3) rfl ?_
  refine gIsub X0 hx (hb hby d_jdk_52_method_15_3) (pc' := 4) rfl ?_
  show Goes p e below _ s₁ (mkF m 4 #[.val (.ref t), .val (.int (3 : Int32))] [(.int (0 : Int32))])
  refine gBipush X0 hx (v := (31 : Int32)) (hb hby d_jdk_52_method_15_4) (pc' := 6) rfl rfl ?_
  refine gIushr X0 hx (hb hby d_jdk_52_method_15_6) (pc' := 7) rfl ?_
  show Goes p e below _ s₁ (mkF m 7 #[.val (.ref t), .val (.int (3 : Int32))] [(.int (0 : Int32))])
  refine gI2b X0 hx (hb hby d_jdk_52_method_15_7) (pc' := 8) rfl ?_
  show Goes p e below _ s₁ (mkF m 8 #[.val (.ref t), .val (.int (3 : Int32))] [(.int (0 : Int32))])
  exact gRetN X0 hx hlk hret (by simp) (hb hby d_jdk_52_method_15_8) (w := (0 : Int32)) rfl (by decide) (by decide) (⟨rfl, e0, rfl⟩)
theorem ef_c_sinit_3v (m : MethodId) (a : Addr) (x : Addr) : entryFrame m #[(.ref a), (.ref x), (.int (0 : Int32)), (.int (3 : Int32)), .null] 6 = mkF m 0 #[.val (.ref a), .val (.ref x), .val (.int (0 : Int32)), .val (.int (3 : Int32)), .val .null, .unset] [] := by first | (simp [entryFrame, mkF, argsToLocals, Value.category]; done) | rfl
set_option maxRecDepth 65536 in
set_option maxHeartbeats 40000000 in
theorem c_sinit_3v (l : Launch) (Z : State) (a0 : Array Value) (hw : ∀ d ∈ tables_1, d.before a0 Z = true) (a x : Addr) (cx : ClassId) (n0 : Nat) (c0 c1 c2 : Int32) (h0 : Heap) (hCpt : Cpt Z h0) (ga : n0 ≤ a) (gz : n0 ≤ h0.size) (hax : x ≠ a) (E : Exa Z h0 a "java/lang/String") (C : Fld Z h0 a "java/lang/String" "coder" "B" (.int 0)) (V : Fld Z h0 a "java/lang/String" "value" "[B" .null) (A : Arv Z h0 x cx .char 3 [.int c0, .int c1, .int c2] (.int 0)) (hc0 : 0 ≤ c0.toInt ∧ c0.toInt ≤ 255) (hc1 : 0 ≤ c1.toInt ∧ c1.toInt ≤ 255) (hc2 : 0 ≤ c2.toInt ∧ c2.toInt ≤ 255) :
    Ctr l Z (⟨"java/lang/String", "<init>", "([CIILjava/lang/Void;)V"⟩ : MethodName) jdk_42_method_149_code 6 none [] ({ frames := 2, cells := 1, slots := 3, locals := 37 } : Room) #[(.ref a), (.ref x), (.int (0 : Int32)), (.int (3 : Int32)), .null] h0 (fun v h L => ∃ (t : Addr) (ct : ClassId), v = none ∧ Fr n0 L ∧ Keep h0 h [a] ∧ h0.size ≤ t ∧ Exa Z h a "java/lang/String" ∧ Fld Z h a "java/lang/String" "coder" "B" (.int 0) ∧ Fld Z h a "java/lang/String" "value" "[B" (.ref t) ∧ Arv Z h t ct .byte 3 [by8 c0, by8 c1, by8 c2] (.int 0)) := by
  refine Ctr.of (plainFor_of_name pn_3) ?_
  intro p e s m below meth c s₁ hx hby hml hret hown hnm hZ hlk X0 e0
  refine Goes.cast (ef_c_sinit_3v m a x) ?_
  have hCpt0 := hCpt
  obtain ⟨cz, SC, hcz⟩ := hCpt0
  refine gLoadAN X0 hx (hb hby d_jdk_42_method_149_0) (pc' := 1) rfl rfl rfl ?_
  refine gInitO X0 hx hZ hown (hw _ (List.mem_of_getElem? (i := 12) rfl)) (hw _ (List.mem_of_getElem? (i := 13) rfl)) (hw _ (List.mem_of_getElem? (i := 14) rfl)) e0 (by rw [hml]; rfl) (hb hby d_jdk_42_method_149_1) (pc' := 4) rfl (by decide) (W := 0) (Nat.le_of_eq rfl) (by decide) (fun T1 X1 e1 => ?_)
  refine gLoadIN X1 hx (hb hby d_jdk_42_method_149_4) (pc' := 5) rfl rfl ?_
  refine gIfNeT X1 hx (hb hby d_jdk_42_method_149_5) (pc' := 27) (by decide) (by decide) (pn := 8) rfl (fun (c5 : ¬ (3 : Int) = (0 : Int)) => ?_) (fun (c5 : (3 : Int) = (0 : Int)) => ?_)
  · refine gGetS X1 hx hZ hown (hw _ (List.mem_of_getElem? (i := 37) rfl)) Via.refl e1 SC (hb hby d_jdk_42_method_149_27) (pc' := 30) rfl (fun T2 X2 e2 => ?_)
    refine gIfEqT X2 hx (hb hby d_jdk_42_method_149_30) (pc' := 58) (by decide) (by decide) (pn := 33) rfl (fun (c30 : cz.toInt = (0 : Int)) => ?_) (fun (c30 : ¬ cz.toInt = (0 : Int)) => ?_)
    · exact absurd c30 hcz
    · refine gLoadAN X2 hx (hb hby d_jdk_42_method_149_33) (pc' := 34) rfl rfl rfl ?_
      refine gLoadIN X2 hx (hb hby d_jdk_42_method_149_34) (pc' := 35) rfl rfl ?_
      refine gLoadIN X2 hx (hb hby d_jdk_42_method_149_35) (pc' := 36) rfl rfl ?_
      refine gCallS X2 hx hZ (y := (⟨"java/lang/StringUTF16", "compress", "([CII)[B"⟩ : MethodName)) hown e2 (by rw [hml]; rfl) (hw _ (List.mem_of_getElem? (i := 38) rfl)) (hw _ (List.mem_of_getElem? (i := 39) rfl)) (hw _ (List.mem_of_getElem? (i := 40) rfl)) (hw _ (List.mem_of_getElem? (i := 41) rfl)) (by decide) (argsL := [(.ref x), (.int (0 : Int32)), (.int (3 : Int32))]) (st := []) (c_compress_3 l Z a0 hw x cx c0 c1 c2 h0 A hc0 hc1 hc2) (lenOf pd_12 rfl) (hb hby d_jdk_42_method_149_36) (pc' := 39) rfl rfl (by decide) (W := 0) (Nat.le_of_eq rfl) (by decide) (by decide) (by decide) ?_
      intro T3 v3 L3 X3 hQ3
      obtain ⟨t3, ct3, rfl, gt3, Nq3, Kq3, Aq3⟩ := hQ3
      have N3 := Fr.app (Fr.nil n0) (fun y hy => Nat.le_trans gz (Nq3 y hy))
      have K3 : Keep h0 T3.heap [a] := (Keep.refl h0 [a]).trans Kq3 all0
      have f3_0 := own_sta_keep SC Kq3 ns0
      have f3_1 := E.keep Kq3
      have f3_2 := C.keep Kq3 nin0
      have f3_3 := V.keep Kq3 nin0
      have nt3 : t3 ≠ a := Ne.symm (Nat.ne_of_lt (Nat.lt_of_lt_of_le E.lt gt3))
      refine gStoreA X3 hx (hb hby d_jdk_42_method_149_39) (l' := #[.val (.ref a), .val (.ref x), .val (.int (0 : Int32)), .val (.int (3 : Int32)), .val .null, .val (.ref t3)]) (pc' := 41) rfl rfl rfl ?_
      refine gLoadAN X3 hx (hb hby d_jdk_42_method_149_41) (pc' := 42) rfl rfl rfl ?_
      refine gLoadA X3 hx (hb hby d_jdk_42_method_149_42) (pc' := 44) rfl rfl rfl ?_
      refine gLoadIN X3 hx (hb hby d_jdk_42_method_149_44) (pc' := 45) rfl rfl ?_
      refine gCallSJ X3 hx hZ (y := (⟨"java/lang/StringUTF16", "coderFromArrayLen", "([BI)B"⟩ : MethodName)) hown rfl (by rw [hml]; rfl) (hw _ (List.mem_of_getElem? (i := 45) rfl)) (hw _ (List.mem_of_getElem? (i := 46) rfl)) (hw _ (List.mem_of_getElem? (i := 40) rfl)) (hw _ (List.mem_of_getElem? (i := 47) rfl)) (by decide) (argsL := [(.ref t3), (.int (3 : Int32))]) (st := [(.ref a)]) (c_cfal_3 l Z a0 hw t3 ct3 c0 c1 c2 _ Aq3) (lenOf pd_9 rfl) (hb hby d_jdk_42_method_149_45) (pc' := 48) rfl rfl rfl rfl (by decide) (W := 1) (Nat.le_of_eq rfl) (by decide) (by decide) (by decide) ?_
      intro T4 X4 e4
      refine gPutF X4 hx hZ hown (hw _ (List.mem_of_getElem? (i := 22) rfl)) Via.refl e4 f3_2 f3_1 (Or.inr ⟨(hw _ (List.mem_of_getElem? (i := 18) rfl)), rfl, hnm⟩) (hw _ (List.mem_of_getElem? (i := 3) rfl)) (ty := .byte) (by decide) rfl rfl (hb hby d_jdk_42_method_149_48) (pc' := 51) rfl (fun T5 h5 X5 e5 W5 => ?_)
      have f5_0 := f3_0.wr W5
      have f5_1 := f3_1.wr W5
      have f5_2 := f3_2.same W5
      have f5_3 := f3_3.other W5 (Or.inr (slot_ne (Or.inr (hw _ (List.mem_of_getElem? (i := 17) rfl))) (Or.inr (hw _ (List.mem_of_getElem? (i := 18) rfl))) (by decide) (t := (.array .byte)) (t' := .byte) (by decide) (by decide)))
      have f5_4 := Aq3.other W5 nt3
      have zs5 : h0.size ≤ h5.size := by rw [W5.size]; exact Kq3.1
      have N5 := Fr.snoc X5 N3 ga
      have K5 : Keep h0 h5 [a] := K3.wr W5 (Or.inl (by simp))
      refine gLoadAN X5 hx (hb hby d_jdk_42_method_149_51) (pc' := 52) rfl rfl rfl ?_
      refine gLoadA X5 hx (hb hby d_jdk_42_method_149_52) (pc' := 54) rfl rfl rfl ?_
      refine gPutF X5 hx hZ hown (hw _ (List.mem_of_getElem? (i := 21) rfl)) Via.refl e5 f5_3 f5_1 (Or.inr ⟨(hw _ (List.mem_of_getElem? (i := 17) rfl)), rfl, hnm⟩) (hw _ (List.mem_of_getElem? (i := 3) rfl)) (ty := (.array .byte)) (by decide) rfl rfl (hb hby d_jdk_42_method_149_54) (pc' := 57) rfl (fun T6 h6 X6 e6 W6 => ?_)
      have f6_0 := f5_0.wr W6
      have f6_1 := f5_1.wr W6
      have f6_2 := f5_2.other W6 (Or.inr (slot_ne (Or.inr (hw _ (List.mem_of_getElem? (i := 18) rfl))) (Or.inr (hw _ (List.mem_of_getElem? (i := 17) rfl))) (by decide) (t := .byte) (t' := (.array .byte)) (by decide) (by decide)))
      have f6_3 := f5_3.same W6
      have f6_4 := f5_4.other W6 nt3
      have zs6 : h0.size ≤ h6.size := by rw [W6.size]; exact zs5
      have N6 := Fr.snoc X6 N5 ga
      have K6 : Keep h0 h6 [a] := K5.wr W6 (Or.inl (by simp))
      exact gRetV X6 hx hlk hret (hb hby d_jdk_42_method_149_57) (by decide) (by decide) (⟨t3, ct3, rfl, N6, by rw [e6]; exact K6, gt3, by rw [e6]; exact f6_1, by rw [e6]; exact f6_2, by rw [e6]; exact f6_3, by rw [e6]; exact f6_4⟩)
  · exact absurd c5 (by decide)
theorem ef_c_sinit_3 (m : MethodId) (a : Addr) (x : Addr) : entryFrame m #[(.ref a), (.ref x)] 2 = mkF m 0 #[.val (.ref a), .val (.ref x)] [] := by first | (simp [entryFrame, mkF, argsToLocals, Value.category]; done) | rfl
set_option maxRecDepth 65536 in
set_option maxHeartbeats 40000000 in
theorem c_sinit_3 (l : Launch) (Z : State) (a0 : Array Value) (hw : ∀ d ∈ tables_1, d.before a0 Z = true) (a x : Addr) (cx : ClassId) (n0 : Nat) (c0 c1 c2 : Int32) (h0 : Heap) (hCpt : Cpt Z h0) (ga : n0 ≤ a) (gz : n0 ≤ h0.size) (hax : x ≠ a) (E : Exa Z h0 a "java/lang/String") (C : Fld Z h0 a "java/lang/String" "coder" "B" (.int 0)) (V : Fld Z h0 a "java/lang/String" "value" "[B" .null) (A : Arv Z h0 x cx .char 3 [.int c0, .int c1, .int c2] (.int 0)) (hc0 : 0 ≤ c0.toInt ∧ c0.toInt ≤ 255) (hc1 : 0 ≤ c1.toInt ∧ c1.toInt ≤ 255) (hc2 : 0 ≤ c2.toInt ∧ c2.toInt ≤ 255) :
    Ctr l Z (⟨"java/lang/String", "<init>", "([C)V"⟩ : MethodName) jdk_42_method_3_code 2 none [] ({ frames := 3, cells := 1, slots := 3, locals := 54 } : Room) #[(.ref a), (.ref x)] h0 (fun v h L => ∃ (t : Addr) (ct : ClassId), v = none ∧ Fr n0 L ∧ Keep h0 h [a] ∧ h0.size ≤ t ∧ Exa Z h a "java/lang/String" ∧ Fld Z h a "java/lang/String" "coder" "B" (.int 0) ∧ Fld Z h a "java/lang/String" "value" "[B" (.ref t) ∧ Arv Z h t ct .byte 3 [by8 c0, by8 c1, by8 c2] (.int 0)) := by
  refine Ctr.of (plainFor_of_name pn_3) ?_
  intro p e s m below meth c s₁ hx hby hml hret hown hnm hZ hlk X0 e0
  refine Goes.cast (ef_c_sinit_3 m a x) ?_
  refine gLoadAN X0 hx (hb hby d_jdk_42_method_3_0) (pc' := 1) rfl rfl rfl ?_
  refine gLoadAN X0 hx (hb hby d_jdk_42_method_3_1) (pc' := 2) rfl rfl rfl ?_
  refine gIconst X0 hx (v := (0 : Int32)) (hb hby d_jdk_42_method_3_2) (pc' := 3) rfl rfl ?_
  refine gLoadAN X0 hx (hb hby d_jdk_42_method_3_3) (pc' := 4) rfl rfl rfl ?_
  refine gArrLen X0 hx hZ e0 A (hb hby d_jdk_42_method_3_4) (pc' := 5) rfl ?_
  refine gNull X0 hx (hb hby d_jdk_42_method_3_5) (pc' := 6) rfl ?_
  refine gCallI X0 hx hZ (y := (⟨"java/lang/String", "<init>", "([CIILjava/lang/Void;)V"⟩ : MethodName)) rfl hown e0 (by rw [hml]; rfl) (hw _ (List.mem_of_getElem? (i := 8) rfl)) (hw _ (List.mem_of_getElem? (i := 9) rfl)) (hw _ (List.mem_of_getElem? (i := 4) rfl)) (hw _ (List.mem_of_getElem? (i := 11) rfl)) (by decide) (argsL := [(.ref x), (.int (0 : Int32)), (.int (3 : Int32)), .null]) (st := []) (c_sinit_3v l Z a0 hw a x cx n0 c0 c1 c2 h0 hCpt ga gz hax E C V A hc0 hc1 hc2) (lenOf pd_13 rfl) (hb hby d_jdk_42_method_3_6) (pc' := 9) rfl rfl (by decide) (W := 0) (Nat.le_of_eq rfl) (by decide) (by decide) (by decide) ?_
  intro T1 v1 L1 X1 hQ1
  obtain ⟨t, ct, rfl, Nq, Kq, gt, Eq, Cq, Vq, Aq⟩ := hQ1
  exact gRetV X1 hx hlk hret (hb hby d_jdk_42_method_3_9) (by decide) (by decide) (⟨t, ct, rfl, Nq, Kq, gt, Eq, Cq, Vq, Aq⟩)
theorem ef_c_compress_4i (m : MethodId) (x : Addr) (t : Addr) : entryFrame m #[(.ref x), (.int (0 : Int32)), (.ref t), (.int (0 : Int32)), (.int (4 : Int32))] 7 = mkF m 0 #[.val (.ref x), .val (.int (0 : Int32)), .val (.ref t), .val (.int (0 : Int32)), .val (.int (4 : Int32)), .unset, .unset] [] := by first | (simp [entryFrame, mkF, argsToLocals, Value.category]; done) | rfl
set_option maxRecDepth 65536 in
set_option maxHeartbeats 40000000 in
theorem c_compress_4i (l : Launch) (Z : State) (a0 : Array Value) (hw : ∀ d ∈ tables_1, d.before a0 Z = true) (x t : Addr) (cx ct : ClassId) (n0 : Nat) (c0 c1 c2 c3 : Int32) (h0 : Heap) (gt : n0 ≤ t) (hne : x ≠ t) (A : Arv Z h0 x cx .char 4 [.int c0, .int c1, .int c2, .int c3] (.int 0)) (B : Arv Z h0 t ct .byte 4 [.int 0, .int 0, .int 0, .int 0] (.int 0)) (hc0 : 0 ≤ c0.toInt ∧ c0.toInt ≤ 255) (hc1 : 0 ≤ c1.toInt ∧ c1.toInt ≤ 255) (hc2 : 0 ≤ c2.toInt ∧ c2.toInt ≤ 255) (hc3 : 0 ≤ c3.toInt ∧ c3.toInt ≤ 255) :
    Ctr l Z (⟨"java/lang/StringUTF16", "compress", "([CI[BII)I"⟩ : MethodName) jdk_52_method_21_code 7 (some .int) [] ({ frames := 0, cells := 0, slots := 0, locals := 0 } : Room) #[(.ref x), (.int (0 : Int32)), (.ref t), (.int (0 : Int32)), (.int (4 : Int32))] h0 (fun v h L => v = some (.int 4) ∧ Fr n0 L ∧ Keep h0 h [t] ∧ Arv Z h t ct .byte 4 [by8 c0, by8 c1, by8 c2, by8 c3] (.int 0)) := by
  refine Ctr.of (plainFor_of_name pn_5) ?_
  intro p e s m below meth c s₁ hx hby hml hret hown hnm hZ hlk X0 e0
  refine Goes.cast (ef_c_compress_4i m x t) ?_
  refine gIconst X0 hx (v := (0 : Int32)) (hb hby d_jdk_52_method_21_0) (pc' := 1) rfl rfl ?_
  refine gStoreI X0 hx (hb hby d_jdk_52_method_21_1) (l' := #[.val (.ref x), .val (.int (0 : Int32)), .val (.ref t), .val (.int (0 : Int32)), .val (.int (4 : Int32)), .val (.int (0 : Int32)), .unset]) (pc' := 3) rfl rfl ?_
  refine gLoadI X0 hx (hb hby d_jdk_52_method_21_3) (pc' := 5) rfl rfl ?_
  refine gLoadI X0 hx (hb hby d_jdk_52_method_21_5) (pc' := 7) rfl rfl ?_
  refine gIcmpGe X0 hx (hb hby d_jdk_52_method_21_7) (pc' := 44) (by decide) (by decide) (pn := 10) rfl (fun (c7 : (4 : Int) ≤ (0 : Int)) => ?_) (fun (c7 : (0 : Int) < (4 : Int)) => ?_)
  · exact absurd c7 (by decide)
  · refine gLoadAN X0 hx (hb hby d_jdk_52_method_21_10) (pc' := 11) rfl rfl rfl ?_
    refine gLoadIN X0 hx (hb hby d_jdk_52_method_21_11) (pc' := 12) rfl rfl ?_
    refine gCaload X0 hx hZ e0 A (j := (0 : Int32)) (v := (.int c0)) (by decide) (by decide) rfl (hb hby d_jdk_52_method_21_12) (pc' := 13) rfl ?_
    refine gStoreI X0 hx (hb hby d_jdk_52_method_21_13) (l' := #[.val (.ref x), .val (.int (0 : Int32)), .val (.ref t), .val (.int (0 : Int32)), .val (.int (4 : Int32)), .val (.int (0 : Int32)), .val (.int c0)]) (pc' := 15) rfl rfl ?_
    refine gLoadI X0 hx (hb hby d_jdk_52_method_21_15) (pc' := 17) rfl rfl ?_
    refine gSipush X0 hx (v := (255 : Int32)) (hb hby d_jdk_52_method_21_17) (pc' := 20) rfl rfl ?_
    refine gIcmpLe X0 hx (hb hby d_jdk_52_method_21_20) (pc' := 26) (by decide) (by decide) (pn := 23) rfl (fun (c20 : c0.toInt ≤ (255 : Int)) => ?_) (fun (c20 : (255 : Int) < c0.toInt) => ?_)
    · refine gLoadAN X0 hx (hb hby d_jdk_52_method_21_26) (pc' := 27) rfl rfl rfl ?_
      refine gLoadIN X0 hx (hb hby d_jdk_52_method_21_27) (pc' := 28) rfl rfl ?_
      refine gLoadI X0 hx (hb hby d_jdk_52_method_21_28) (pc' := 30) rfl rfl ?_
      refine gI2b X0 hx (hb hby d_jdk_52_method_21_30) (pc' := 31) rfl ?_
      refine gBastore X0 hx hZ e0 (x := (c0.toInt8.toInt32)) B (j := (0 : Int32)) (by decide) (by decide) 0 (by decide) (by simp) (hb hby d_jdk_52_method_21_31) (pc' := 32) rfl (fun T1 h1 X1 e1 W1 A1 => ?_)
      have f1_0 := A.other W1 hne
      have zs1 : h0.size ≤ h1.size := by rw [W1.size]; exact (Nat.le_refl _)
      have N1 := Fr.snoc X1 (Fr.nil n0) gt
      have K1 : Keep h0 h1 [t] := (Keep.refl h0 [t]).wr W1 (Or.inl (by simp))
      have V1 : Arv Z h1 t _ .byte (4 : Int32) [(.int (c0.toInt8.toInt32)), (.int (0 : Int32)), (.int (0 : Int32)), (.int (0 : Int32))] (.int 0) := (by have q := A1; rw [own_nb] at q; exact q)
      refine gIinc X1 hx (v := (1 : Int32)) (hb hby d_jdk_52_method_21_32) (l' := #[.val (.ref x), .val (.int (1 : Int32)), .val (.ref t), .val (.int (0 : Int32)), .val (.int (4 : Int32)), .val (.int (0 : Int32)), .val (.int c0)]) (pc' := 35) rfl rfl rfl rfl ?_
      refine gIinc X1 hx (v := (1 : Int32)) (hb hby d_jdk_52_method_21_35) (l' := #[.val (.ref x), .val (.int (1 : Int32)), .val (.ref t), .val (.int (1 : Int32)), .val (.int (4 : Int32)), .val (.int (0 : Int32)), .val (.int c0)]) (pc' := 38) rfl rfl rfl rfl ?_
      refine gIinc X1 hx (v := (1 : Int32)) (hb hby d_jdk_52_method_21_38) (l' := #[.val (.ref x), .val (.int (1 : Int32)), .val (.ref t), .val (.int (1 : Int32)), .val (.int (4 : Int32)), .val (.int (1 : Int32)), .val (.int c0)]) (pc' := 41) rfl rfl rfl rfl ?_
      refine gGoto X1 hx (hb hby d_jdk_52_method_21_41) (pc' := 3) (by decide) (by decide) ?_
      refine gLoadI X1 hx (hb hby d_jdk_52_method_21_3) (pc' := 5) rfl rfl ?_
      refine gLoadI X1 hx (hb hby d_jdk_52_method_21_5) (pc' := 7) rfl rfl ?_
      refine gIcmpGe X1 hx (hb hby d_jdk_52_method_21_7) (pc' := 44) (by decide) (by decide) (pn := 10) rfl (fun (c7' : (4 : Int) ≤ (1 : Int)) => ?_) (fun (c7' : (1 : Int) < (4 : Int)) => ?_)
      · exact absurd c7' (by decide)
      · refine gLoadAN X1 hx (hb hby d_jdk_52_method_21_10) (pc' := 11) rfl rfl rfl ?_
        refine gLoadIN X1 hx (hb hby d_jdk_52_method_21_11) (pc' := 12) rfl rfl ?_
        refine gCaload X1 hx hZ e1 f1_0 (j := (1 : Int32)) (v := (.int c1)) (by decide) (by decide) rfl (hb hby d_jdk_52_method_21_12) (pc' := 13) rfl ?_
        refine gStoreI X1 hx (hb hby d_jdk_52_method_21_13) (l' := #[.val (.ref x), .val (.int (1 : Int32)), .val (.ref t), .val (.int (1 : Int32)), .val (.int (4 : Int32)), .val (.int (1 : Int32)), .val (.int c1)]) (pc' := 15) rfl rfl ?_
        refine gLoadI X1 hx (hb hby d_jdk_52_method_21_15) (pc' := 17) rfl rfl ?_
        refine gSipush X1 hx (v := (255 : Int32)) (hb hby d_jdk_52_method_21_17) (pc' := 20) rfl rfl ?_
        refine gIcmpLe X1 hx (hb hby d_jdk_52_method_21_20) (pc' := 26) (by decide) (by decide) (pn := 23) rfl (fun (c20' : c1.toInt ≤ (255 : Int)) => ?_) (fun (c20' : (255 : Int) < c1.toInt) => ?_)
        · refine gLoadAN X1 hx (hb hby d_jdk_52_method_21_26) (pc' := 27) rfl rfl rfl ?_
          refine gLoadIN X1 hx (hb hby d_jdk_52_method_21_27) (pc' := 28) rfl rfl ?_
          refine gLoadI X1 hx (hb hby d_jdk_52_method_21_28) (pc' := 30) rfl rfl ?_
          refine gI2b X1 hx (hb hby d_jdk_52_method_21_30) (pc' := 31) rfl ?_
          refine gBastore X1 hx hZ e1 (x := (c1.toInt8.toInt32)) V1 (j := (1 : Int32)) (by decide) (by decide) 1 (by decide) (by simp) (hb hby d_jdk_52_method_21_31) (pc' := 32) rfl (fun T2 h2 X2 e2 W2 A2 => ?_)
          have f2_0 := f1_0.other W2 hne
          have zs2 : h0.size ≤ h2.size := by rw [W2.size]; exact zs1
          have N2 := Fr.snoc X2 N1 gt
          have K2 : Keep h0 h2 [t] := K1.wr W2 (Or.inl (by simp))
          have V2 : Arv Z h2 t _ .byte (4 : Int32) [(.int (c0.toInt8.toInt32)), (.int (c1.toInt8.toInt32)), (.int (0 : Int32)), (.int (0 : Int32))] (.int 0) := (by have q := A2; rw [own_nb] at q; exact q)
          refine gIinc X2 hx (v := (1 : Int32)) (hb hby d_jdk_52_method_21_32) (l' := #[.val (.ref x), .val (.int (2 : Int32)), .val (.ref t), .val (.int (1 : Int32)), .val (.int (4 : Int32)), .val (.int (1 : Int32)), .val (.int c1)]) (pc' := 35) rfl rfl rfl rfl ?_
          refine gIinc X2 hx (v := (1 : Int32)) (hb hby d_jdk_52_method_21_35) (l' := #[.val (.ref x), .val (.int (2 : Int32)), .val (.ref t), .val (.int (2 : Int32)), .val (.int (4 : Int32)), .val (.int (1 : Int32)), .val (.int c1)]) (pc' := 38) rfl rfl rfl rfl ?_
          refine gIinc X2 hx (v := (1 : Int32)) (hb hby d_jdk_52_method_21_38) (l' := #[.val (.ref x), .val (.int (2 : Int32)), .val (.ref t), .val (.int (2 : Int32)), .val (.int (4 : Int32)), .val (.int (2 : Int32)), .val (.int c1)]) (pc' := 41) rfl rfl rfl rfl ?_
          refine gGoto X2 hx (hb hby d_jdk_52_method_21_41) (pc' := 3) (by decide) (by decide) ?_
          refine gLoadI X2 hx (hb hby d_jdk_52_method_21_3) (pc' := 5) rfl rfl ?_
          refine gLoadI X2 hx (hb hby d_jdk_52_method_21_5) (pc' := 7) rfl rfl ?_
          refine gIcmpGe X2 hx (hb hby d_jdk_52_method_21_7) (pc' := 44) (by decide) (by decide) (pn := 10) rfl (fun (c7'' : (4 : Int) ≤ (2 : Int)) => ?_) (fun (c7'' : (2 : Int) < (4 : Int)) => ?_)
          · exact absurd c7'' (by decide)
          · refine gLoadAN X2 hx (hb hby d_jdk_52_method_21_10) (pc' := 11) rfl rfl rfl ?_
            refine gLoadIN X2 hx (hb hby d_jdk_52_method_21_11) (pc' := 12) rfl rfl ?_
            refine gCaload X2 hx hZ e2 f2_0 (j := (2 : Int32)) (v := (.int c2)) (by decide) (by decide) rfl (hb hby d_jdk_52_method_21_12) (pc' := 13) rfl ?_
            refine gStoreI X2 hx (hb hby d_jdk_52_method_21_13) (l' := #[.val (.ref x), .val (.int (2 : Int32)), .val (.ref t), .val (.int (2 : Int32)), .val (.int (4 : Int32)), .val (.int (2 : Int32)), .val (.int c2)]) (pc' := 15) rfl rfl ?_
            refine gLoadI X2 hx (hb hby d_jdk_52_method_21_15) (pc' := 17) rfl rfl ?_
            refine gSipush X2 hx (v := (255 : Int32)) (hb hby d_jdk_52_method_21_17) (pc' := 20) rfl rfl ?_
            refine gIcmpLe X2 hx (hb hby d_jdk_52_method_21_20) (pc' := 26) (by decide) (by decide) (pn := 23) rfl (fun (c20'' : c2.toInt ≤ (255 : Int)) => ?_) (fun (c20'' : (255 : Int) < c2.toInt) => ?_)
            · refine gLoadAN X2 hx (hb hby d_jdk_52_method_21_26) (pc' := 27) rfl rfl rfl ?_
              refine gLoadIN X2 hx (hb hby d_jdk_52_method_21_27) (pc' := 28) rfl rfl ?_
              refine gLoadI X2 hx (hb hby d_jdk_52_method_21_28) (pc' := 30) rfl rfl ?_
              refine gI2b X2 hx (hb hby d_jdk_52_method_21_30) (pc' := 31) rfl ?_
              refine gBastore X2 hx hZ e2 (x := (c2.toInt8.toInt32)) V2 (j := (2 : Int32)) (by decide) (by decide) 2 (by decide) (by simp) (hb hby d_jdk_52_method_21_31) (pc' := 32) rfl (fun T3 h3 X3 e3 W3 A3 => ?_)
              have f3_0 := f2_0.other W3 hne
              have zs3 : h0.size ≤ h3.size := by rw [W3.size]; exact zs2
              have N3 := Fr.snoc X3 N2 gt
              have K3 : Keep h0 h3 [t] := K2.wr W3 (Or.inl (by simp))
              have V3 : Arv Z h3 t _ .byte (4 : Int32) [(.int (c0.toInt8.toInt32)), (.int (c1.toInt8.toInt32)), (.int (c2.toInt8.toInt32)), (.int (0 : Int32))] (.int 0) := (by have q := A3; rw [own_nb] at q; exact q)
              refine gIinc X3 hx (v := (1 : Int32)) (hb hby d_jdk_52_method_21_32) (l' := #[.val (.ref x), .val (.int (3 : Int32)), .val (.ref t), .val (.int (2 : Int32)), .val (.int (4 : Int32)), .val (.int (2 : Int32)), .val (.int c2)]) (pc' := 35) rfl rfl rfl rfl ?_
              refine gIinc X3 hx (v := (1 : Int32)) (hb hby d_jdk_52_method_21_35) (l' := #[.val (.ref x), .val (.int (3 : Int32)), .val (.ref t), .val (.int (3 : Int32)), .val (.int (4 : Int32)), .val (.int (2 : Int32)), .val (.int c2)]) (pc' := 38) rfl rfl rfl rfl ?_
              refine gIinc X3 hx (v := (1 : Int32)) (hb hby d_jdk_52_method_21_38) (l' := #[.val (.ref x), .val (.int (3 : Int32)), .val (.ref t), .val (.int (3 : Int32)), .val (.int (4 : Int32)), .val (.int (3 : Int32)), .val (.int c2)]) (pc' := 41) rfl rfl rfl rfl ?_
              refine gGoto X3 hx (hb hby d_jdk_52_method_21_41) (pc' := 3) (by decide) (by decide) ?_
              refine gLoadI X3 hx (hb hby d_jdk_52_method_21_3) (pc' := 5) rfl rfl ?_
              refine gLoadI X3 hx (hb hby d_jdk_52_method_21_5) (pc' := 7) rfl rfl ?_
              refine gIcmpGe X3 hx (hb hby d_jdk_52_method_21_7) (pc' := 44) (by decide) (by decide) (pn := 10) rfl (fun (c7''' : (4 : Int) ≤ (3 : Int)) => ?_) (fun (c7''' : (3 : Int) < (4 : Int)) => ?_)
              · exact absurd c7''' (by decide)
              · refine gLoadAN X3 hx (hb hby d_jdk_52_method_21_10) (pc' := 11) rfl rfl rfl ?_
                refine gLoadIN X3 hx (hb hby d_jdk_52_method_21_11) (pc' := 12) rfl rfl ?_
                refine gCaload X3 hx hZ e3 f3_0 (j := (3 : Int32)) (v := (.int c3)) (by decide) (by decide) rfl (hb hby d_jdk_52_method_21_12) (pc' := 13) rfl ?_
                refine gStoreI X3 hx (hb hby d_jdk_52_method_21_13) (l' := #[.val (.ref x), .val (.int (3 : Int32)), .val (.ref t), .val (.int (3 : Int32)), .val (.int (4 : Int32)), .val (.int (3 : Int32)), .val (.int c3)]) (pc' := 15) rfl rfl ?_
                refine gLoadI X3 hx (hb hby d_jdk_52_method_21_15) (pc' := 17) rfl rfl ?_
                refine gSipush X3 hx (v := (255 : Int32)) (hb hby d_jdk_52_method_21_17) (pc' := 20) rfl rfl ?_
                refine gIcmpLe X3 hx (hb hby d_jdk_52_method_21_20) (pc' := 26) (by decide) (by decide) (pn := 23) rfl (fun (c20''' : c3.toInt ≤ (255 : Int)) => ?_) (fun (c20''' : (255 : Int) < c3.toInt) => ?_)
                · refine gLoadAN X3 hx (hb hby d_jdk_52_method_21_26) (pc' := 27) rfl rfl rfl ?_
                  refine gLoadIN X3 hx (hb hby d_jdk_52_method_21_27) (pc' := 28) rfl rfl ?_
                  refine gLoadI X3 hx (hb hby d_jdk_52_method_21_28) (pc' := 30) rfl rfl ?_
                  refine gI2b X3 hx (hb hby d_jdk_52_method_21_30) (pc' := 31) rfl ?_
                  refine gBastore X3 hx hZ e3 (x := (c3.toInt8.toInt32)) V3 (j := (3 : Int32)) (by decide) (by decide) 3 (by decide) (by simp) (hb hby d_jdk_52_method_21_31) (pc' := 32) rfl (fun T4 h4 X4 e4 W4 A4 => ?_)
                  have f4_0 := f3_0.other W4 hne
                  have zs4 : h0.size ≤ h4.size := by rw [W4.size]; exact zs3
                  have N4 := Fr.snoc X4 N3 gt
                  have K4 : Keep h0 h4 [t] := K3.wr W4 (Or.inl (by simp))
                  have V4 : Arv Z h4 t _ .byte (4 : Int32) [(.int (c0.toInt8.toInt32)), (.int (c1.toInt8.toInt32)), (.int (c2.toInt8.toInt32)), (.int (c3.toInt8.toInt32))] (.int 0) := (by have q := A4; rw [own_nb] at q; exact q)
                  refine gIinc X4 hx (v := (1 : Int32)) (hb hby d_jdk_52_method_21_32) (l' := #[.val (.ref x), .val (.int (4 : Int32)), .val (.ref t), .val (.int (3 : Int32)), .val (.int (4 : Int32)), .val (.int (3 : Int32)), .val (.int c3)]) (pc' := 35) rfl rfl rfl rfl ?_
                  refine gIinc X4 hx (v := (1 : Int32)) (hb hby d_jdk_52_method_21_35) (l' := #[.val (.ref x), .val (.int (4 : Int32)), .val (.ref t), .val (.int (4 : Int32)), .val (.int (4 : Int32)), .val (.int (3 : Int32)), .val (.int c3)]) (pc' := 38) rfl rfl rfl rfl ?_
                  refine gIinc X4 hx (v := (1 : Int32)) (hb hby d_jdk_52_method_21_38) (l' := #[.val (.ref x), .val (.int (4 : Int32)), .val (.ref t), .val (.int (4 : Int32)), .val (.int (4 : Int32)), .val (.int (4 : Int32)), .val (.int c3)]) (pc' := 41) rfl rfl rfl rfl ?_
                  refine gGoto X4 hx (hb hby d_jdk_52_method_21_41) (pc' := 3) (by decide) (by decide) ?_
                  refine gLoadI X4 hx (hb hby d_jdk_52_method_21_3) (pc' := 5) rfl rfl ?_
                  refine gLoadI X4 hx (hb hby d_jdk_52_method_21_5) (pc' := 7) rfl rfl ?_
                  refine gIcmpGe X4 hx (hb hby d_jdk_52_method_21_7) (pc' := 44) (by decide) (by decide) (pn := 10) rfl (fun (c7'''' : (4 : Int) ≤ (4 : Int)) => ?_) (fun (c7'''' : (4 : Int) < (4 : Int)) => ?_)
                  · refine gLoadI X4 hx (hb hby d_jdk_52_method_21_44) (pc' := 46) rfl rfl ?_
                    exact gRetI X4 hx hlk hret (hb hby d_jdk_52_method_21_46) (by decide) (by decide) (⟨rfl, N4, by rw [e4]; exact K4, by rw [e4]; exact V4⟩)
                  · exact absurd c7'''' (by decide)
                · exact absurd c20''' (by omega)
            · exact absurd c20'' (by omega)
        · exact absurd c20' (by omega)
    · exact absurd c20 (by omega)
theorem ef_c_compress_4 (m : MethodId) (x : Addr) : entryFrame m #[(.ref x), (.int (0 : Int32)), (.int (4 : Int32))] 6 = mkF m 0 #[.val (.ref x), .val (.int (0 : Int32)), .val (.int (4 : Int32)), .unset, .unset, .unset] [] := by first | (simp [entryFrame, mkF, argsToLocals, Value.category]; done) | rfl
set_option maxRecDepth 65536 in
set_option maxHeartbeats 40000000 in
theorem c_compress_4 (l : Launch) (Z : State) (a0 : Array Value) (hw : ∀ d ∈ tables_1, d.before a0 Z = true) (x : Addr) (cx : ClassId) (c0 c1 c2 c3 : Int32) (h0 : Heap) (A : Arv Z h0 x cx .char 4 [.int c0, .int c1, .int c2, .int c3] (.int 0)) (hc0 : 0 ≤ c0.toInt ∧ c0.toInt ≤ 255) (hc1 : 0 ≤ c1.toInt ∧ c1.toInt ≤ 255) (hc2 : 0 ≤ c2.toInt ∧ c2.toInt ≤ 255) (hc3 : 0 ≤ c3.toInt ∧ c3.toInt ≤ 255) :
    Ctr l Z (⟨"java/lang/StringUTF16", "compress", "([CII)[B"⟩ : MethodName) jdk_52_method_16_code 6 (some (.array .byte)) [] ({ frames := 1, cells := 1, slots := 4, locals := 18 } : Room) #[(.ref x), (.int (0 : Int32)), (.int (4 : Int32))] h0 (fun v h L => ∃ (t : Addr) (ct : ClassId), v = some (.ref t) ∧ h0.size ≤ t ∧ Fr h0.size L ∧ Keep h0 h [] ∧ Arv Z h t ct .byte 4 [by8 c0, by8 c1, by8 c2, by8 c3] (.int 0)) := by
  refine Ctr.of (plainFor_of_name pn_5) ?_
  intro p e s m below meth c s₁ hx hby hml hret hown hnm hZ hlk X0 e0
  refine Goes.cast (ef_c_compress_4 m x) ?_
  refine gLoadIN X0 hx (hb hby d_jdk_52_method_16_0) (pc' := 1) rfl rfl ?_
  refine gNewP X0 hx hZ (hw _ (List.mem_of_getElem? (i := 16) rfl)) e0 (n := (4 : Int32)) (hb hby d_jdk_52_method_16_1) (by decide) (cap := 4) (by decide) (by decide) (by decide) (by decide) 4 (pc' := 3) rfl (fun T1 h1 b1 ck1 X1 e1 g1 E1 A1 => ?_)
  have ne_x_b1 : x ≠ b1 := Nat.ne_of_lt (Nat.lt_of_lt_of_eq A.lt g1.symm)
  have f1_0 := A.ext E1
  have sz_b1 : h0.size ≤ b1 := Nat.le_trans (Nat.le_refl _) (Nat.le_of_eq g1.symm)
  have zs1 : h0.size ≤ h1.size := Nat.le_trans (Nat.le_refl _) E1.1
  have K1 : Keep h0 h1 [] := (Keep.refl h0 []).ext E1
  have V1 : Arv Z h1 b1 ck1 .byte (4 : Int32) [(.int (0 : Int32)), (.int (0 : Int32)), (.int (0 : Int32)), (.int (0 : Int32))] (.int (0 : Int32)) := A1
  refine gStoreAN X1 hx (hb hby d_jdk_52_method_16_3) (l' := #[.val (.ref x), .val (.int (0 : Int32)), .val (.int (4 : Int32)), .val (.ref b1), .unset, .unset]) (pc' := 4) rfl rfl rfl ?_
  refine gLoadAN X1 hx (hb hby d_jdk_52_method_16_4) (pc' := 5) rfl rfl rfl ?_
  refine gLoadIN X1 hx (hb hby d_jdk_52_method_16_5) (pc' := 6) rfl rfl ?_
  refine gLoadAN X1 hx (hb hby d_jdk_52_method_16_6) (pc' := 7) rfl rfl rfl ?_
  refine gIconst X1 hx (v := (0 : Int32)) (hb hby d_jdk_52_method_16_7) (pc' := 8) rfl rfl ?_
  refine gLoadIN X1 hx (hb hby d_jdk_52_method_16_8) (pc' := 9) rfl rfl ?_
  refine gCallS X1 hx hZ (y := (⟨"java/lang/StringUTF16", "compress", "([CI[BII)I"⟩ : MethodName)) hown e1 (by rw [hml]; rfl) (hw _ (List.mem_of_getElem? (i := 42) rfl)) (hw _ (List.mem_of_getElem? (i := 43) rfl)) (hw _ (List.mem_of_getElem? (i := 40) rfl)) (hw _ (List.mem_of_getElem? (i := 44) rfl)) (by decide) (argsL := [(.ref x), (.int (0 : Int32)), (.ref b1), (.int (0 : Int32)), (.int (4 : Int32))]) (st := []) (c_compress_4i l Z a0 hw x b1 cx ck1 h0.size c0 c1 c2 c3 h1 sz_b1 ne_x_b1 f1_0 V1 hc0 hc1 hc2 hc3) (lenOf pd_14 rfl) (hb hby d_jdk_52_method_16_9) (pc' := 12) rfl rfl (by decide) (W := 0) (Nat.le_of_eq rfl) (by decide) (by decide) (by decide) ?_
  intro T2 v2 L2 X2 hQ2
  obtain ⟨rfl, Nq2, Kq2, Aq2⟩ := hQ2
  have N2 := Fr.app (Fr.nil h0.size) Nq2
  have K2 : Keep h0 T2.heap [] := K1.trans Kq2 (allS (Or.inr sz_b1) all0)
  refine gStoreI X2 hx (hb hby d_jdk_52_method_16_12) (l' := #[.val (.ref x), .val (.int (0 : Int32)), .val (.int (4 : Int32)), .val (.ref b1), .val (.int (4 : Int32)), .unset]) (pc' := 14) rfl rfl ?_
  refine gLoadI X2 hx (hb hby d_jdk_52_method_16_14) (pc' := 16) rfl rfl ?_
  refine gLoadIN X2 hx (hb hby d_jdk_52_method_16_16) (pc' := 17) rfl rfl ?_
  refine gIcmpEqT X2 hx (hb hby d_jdk_52_method_16_17) (pc' := 57) (by decide) (by decide) (pn := 20) rfl (fun (c17 : (4 : Int) = (4 : Int)) => ?_) (fun (c17 : ¬ (4 : Int) = (4 : Int)) => ?_)
  · refine gLoadAN X2 hx (hb hby d_jdk_52_method_16_57) (pc' := 58) rfl rfl rfl ?_
    exact gRetA X2 hx hlk hret rfl rfl (hb hby d_jdk_52_method_16_58) (by decide) (by decide) (⟨b1, _, rfl, sz_b1, N2, K2, Aq2⟩)
  · exact absurd c17 (by decide)
theorem ef_c_cfal_4 (m : MethodId) (t : Addr) : entryFrame m #[(.ref t), (.int (4 : Int32))] 2 = mkF m 0 #[.val (.ref t), .val (.int (4 : Int32))] [] := by first | (simp [entryFrame, mkF, argsToLocals, Value.category]; done) | rfl
set_option maxRecDepth 65536 in
set_option maxHeartbeats 40000000 in
theorem c_cfal_4 (l : Launch) (Z : State) (a0 : Array Value) (hw : ∀ d ∈ tables_1, d.before a0 Z = true) (t : Addr) (ck : ClassId) (c0 c1 c2 c3 : Int32) (h0 : Heap) (A : Arv Z h0 t ck .byte 4 [by8 c0, by8 c1, by8 c2, by8 c3] (.int 0)) :
    Ctr l Z (⟨"java/lang/StringUTF16", "coderFromArrayLen", "([BI)B"⟩ : MethodName) jdk_52_method_15_code 2 (some .byte) [] ({ frames := 0, cells := 0, slots := 0, locals := 0 } : Room) #[(.ref t), (.int (4 : Int32))] h0 (Just h0 (.int 0)) := by
  refine Ctr.of (plainFor_of_name pn_5) ?_
  intro p e s m below meth c s₁ hx hby hml hret hown hnm hZ hlk X0 e0
  refine Goes.cast (ef_c_cfal_4 m t) ?_
  refine gLoadIN X0 hx (hb hby d_jdk_52_method_15_0) (pc' := 1) rfl rfl ?_
  refine gLoadAN X0 hx (hb hby d_jdk_52_method_15_1) (pc' := 2) rfl rfl rfl ?_
  refine gArrLen X0 hx hZ e0 A (hb hby d_jdk_52_method_15_2) (pc' := 3) rfl ?_
  refine gIsub X0 hx (hb hby d_jdk_52_method_15_3) (pc' := 4) rfl ?_
  show Goes p e below _ s₁ (mkF m 4 #[.val (.ref t), .val (.int (4 : Int32))] [(.int (0 : Int32))])
  refine gBipush X0 hx (v := (31 : Int32)) (hb hby d_jdk_52_method_15_4) (pc' := 6) rfl rfl ?_
  refine gIushr X0 hx (hb hby d_jdk_52_method_15_6) (pc' := 7) rfl ?_
  show Goes p e below _ s₁ (mkF m 7 #[.val (.ref t), .val (.int (4 : Int32))] [(.int (0 : Int32))])
  refine gI2b X0 hx (hb hby d_jdk_52_method_15_7) (pc' := 8) rfl ?_
  show Goes p e below _ s₁ (mkF m 8 #[.val (.ref t), .val (.int (4 : Int32))] [(.int (0 : Int32))])
  exact gRetN X0 hx hlk hret (by simp) (hb hby d_jdk_52_method_15_8) (w := (0 : Int32)) rfl (by decide) (by decide) (⟨rfl, e0, rfl⟩)
theorem ef_c_sinit_4v (m : MethodId) (a : Addr) (x : Addr) : entryFrame m #[(.ref a), (.ref x), (.int (0 : Int32)), (.int (4 : Int32)), .null] 6 = mkF m 0 #[.val (.ref a), .val (.ref x), .val (.int (0 : Int32)), .val (.int (4 : Int32)), .val .null, .unset] [] := by first | (simp [entryFrame, mkF, argsToLocals, Value.category]; done) | rfl
set_option maxRecDepth 65536 in
set_option maxHeartbeats 40000000 in
theorem c_sinit_4v (l : Launch) (Z : State) (a0 : Array Value) (hw : ∀ d ∈ tables_1, d.before a0 Z = true) (a x : Addr) (cx : ClassId) (n0 : Nat) (c0 c1 c2 c3 : Int32) (h0 : Heap) (hCpt : Cpt Z h0) (ga : n0 ≤ a) (gz : n0 ≤ h0.size) (hax : x ≠ a) (E : Exa Z h0 a "java/lang/String") (C : Fld Z h0 a "java/lang/String" "coder" "B" (.int 0)) (V : Fld Z h0 a "java/lang/String" "value" "[B" .null) (A : Arv Z h0 x cx .char 4 [.int c0, .int c1, .int c2, .int c3] (.int 0)) (hc0 : 0 ≤ c0.toInt ∧ c0.toInt ≤ 255) (hc1 : 0 ≤ c1.toInt ∧ c1.toInt ≤ 255) (hc2 : 0 ≤ c2.toInt ∧ c2.toInt ≤ 255) (hc3 : 0 ≤ c3.toInt ∧ c3.toInt ≤ 255) :
    Ctr l Z (⟨"java/lang/String", "<init>", "([CIILjava/lang/Void;)V"⟩ : MethodName) jdk_42_method_149_code 6 none [] ({ frames := 2, cells := 1, slots := 4, locals := 37 } : Room) #[(.ref a), (.ref x), (.int (0 : Int32)), (.int (4 : Int32)), .null] h0 (fun v h L => ∃ (t : Addr) (ct : ClassId), v = none ∧ Fr n0 L ∧ Keep h0 h [a] ∧ h0.size ≤ t ∧ Exa Z h a "java/lang/String" ∧ Fld Z h a "java/lang/String" "coder" "B" (.int 0) ∧ Fld Z h a "java/lang/String" "value" "[B" (.ref t) ∧ Arv Z h t ct .byte 4 [by8 c0, by8 c1, by8 c2, by8 c3] (.int 0)) := by
  refine Ctr.of (plainFor_of_name pn_3) ?_
  intro p e s m below meth c s₁ hx hby hml hret hown hnm hZ hlk X0 e0
  refine Goes.cast (ef_c_sinit_4v m a x) ?_
  have hCpt0 := hCpt
  obtain ⟨cz, SC, hcz⟩ := hCpt0
  refine gLoadAN X0 hx (hb hby d_jdk_42_method_149_0) (pc' := 1) rfl rfl rfl ?_
  refine gInitO X0 hx hZ hown (hw _ (List.mem_of_getElem? (i := 12) rfl)) (hw _ (List.mem_of_getElem? (i := 13) rfl)) (hw _ (List.mem_of_getElem? (i := 14) rfl)) e0 (by rw [hml]; rfl) (hb hby d_jdk_42_method_149_1) (pc' := 4) rfl (by decide) (W := 0) (Nat.le_of_eq rfl) (by decide) (fun T1 X1 e1 => ?_)
  refine gLoadIN X1 hx (hb hby d_jdk_42_method_149_4) (pc' := 5) rfl rfl ?_
  refine gIfNeT X1 hx (hb hby d_jdk_42_method_149_5) (pc' := 27) (by decide) (by decide) (pn := 8) rfl (fun (c5 : ¬ (4 : Int) = (0 : Int)) => ?_) (fun (c5 : (4 : Int) = (0 : Int)) => ?_)
  · refine gGetS X1 hx hZ hown (hw _ (List.mem_of_getElem? (i := 37) rfl)) Via.refl e1 SC (hb hby d_jdk_42_method_149_27) (pc' := 30) rfl (fun T2 X2 e2 => ?_)
    refine gIfEqT X2 hx (hb hby d_jdk_42_method_149_30) (pc' := 58) (by decide) (by decide) (pn := 33) rfl (fun (c30 : cz.toInt = (0 : Int)) => ?_) (fun (c30 : ¬ cz.toInt = (0 : Int)) => ?_)
    · exact absurd c30 hcz
    · refine gLoadAN X2 hx (hb hby d_jdk_42_method_149_33) (pc' := 34) rfl rfl rfl ?_
      refine gLoadIN X2 hx (hb hby d_jdk_42_method_149_34) (pc' := 35) rfl rfl ?_
      refine gLoadIN X2 hx (hb hby d_jdk_42_method_149_35) (pc' := 36) rfl rfl ?_
      refine gCallS X2 hx hZ (y := (⟨"java/lang/StringUTF16", "compress", "([CII)[B"⟩ : MethodName)) hown e2 (by rw [hml]; rfl) (hw _ (List.mem_of_getElem? (i := 38) rfl)) (hw _ (List.mem_of_getElem? (i := 39) rfl)) (hw _ (List.mem_of_getElem? (i := 40) rfl)) (hw _ (List.mem_of_getElem? (i := 41) rfl)) (by decide) (argsL := [(.ref x), (.int (0 : Int32)), (.int (4 : Int32))]) (st := []) (c_compress_4 l Z a0 hw x cx c0 c1 c2 c3 h0 A hc0 hc1 hc2 hc3) (lenOf pd_12 rfl) (hb hby d_jdk_42_method_149_36) (pc' := 39) rfl rfl (by decide) (W := 0) (Nat.le_of_eq rfl) (by decide) (by decide) (by decide) ?_
      intro T3 v3 L3 X3 hQ3
      obtain ⟨t3, ct3, rfl, gt3, Nq3, Kq3, Aq3⟩ := hQ3
      have N3 := Fr.app (Fr.nil n0) (fun y hy => Nat.le_trans gz (Nq3 y hy))
      have K3 : Keep h0 T3.heap [a] := (Keep.refl h0 [a]).trans Kq3 all0
      have f3_0 := own_sta_keep SC Kq3 ns0
      have f3_1 := E.keep Kq3
      have f3_2 := C.keep Kq3 nin0
      have f3_3 := V.keep Kq3 nin0
      have nt3 : t3 ≠ a := Ne.symm (Nat.ne_of_lt (Nat.lt_of_lt_of_le E.lt gt3))
      refine gStoreA X3 hx (hb hby d_jdk_42_method_149_39) (l' := #[.val (.ref a), .val (.ref x), .val (.int (0 : Int32)), .val (.int (4 : Int32)), .val .null, .val (.ref t3)]) (pc' := 41) rfl rfl rfl ?_
      refine gLoadAN X3 hx (hb hby d_jdk_42_method_149_41) (pc' := 42) rfl rfl rfl ?_
      refine gLoadA X3 hx (hb hby d_jdk_42_method_149_42) (pc' := 44) rfl rfl rfl ?_
      refine gLoadIN X3 hx (hb hby d_jdk_42_method_149_44) (pc' := 45) rfl rfl ?_
      refine gCallSJ X3 hx hZ (y := (⟨"java/lang/StringUTF16", "coderFromArrayLen", "([BI)B"⟩ : MethodName)) hown rfl (by rw [hml]; rfl) (hw _ (List.mem_of_getElem? (i := 45) rfl)) (hw _ (List.mem_of_getElem? (i := 46) rfl)) (hw _ (List.mem_of_getElem? (i := 40) rfl)) (hw _ (List.mem_of_getElem? (i := 47) rfl)) (by decide) (argsL := [(.ref t3), (.int (4 : Int32))]) (st := [(.ref a)]) (c_cfal_4 l Z a0 hw t3 ct3 c0 c1 c2 c3 _ Aq3) (lenOf pd_9 rfl) (hb hby d_jdk_42_method_149_45) (pc' := 48) rfl rfl rfl rfl (by decide) (W := 1) (Nat.le_of_eq rfl) (by decide) (by decide) (by decide) ?_
      intro T4 X4 e4
      refine gPutF X4 hx hZ hown (hw _ (List.mem_of_getElem? (i := 22) rfl)) Via.refl e4 f3_2 f3_1 (Or.inr ⟨(hw _ (List.mem_of_getElem? (i := 18) rfl)), rfl, hnm⟩) (hw _ (List.mem_of_getElem? (i := 3) rfl)) (ty := .byte) (by decide) rfl rfl (hb hby d_jdk_42_method_149_48) (pc' := 51) rfl (fun T5 h5 X5 e5 W5 => ?_)
      have f5_0 := f3_0.wr W5
      have f5_1 := f3_1.wr W5
      have f5_2 := f3_2.same W5
      have f5_3 := f3_3.other W5 (Or.inr (slot_ne (Or.inr (hw _ (List.mem_of_getElem? (i := 17) rfl))) (Or.inr (hw _ (List.mem_of_getElem? (i := 18) rfl))) (by decide) (t := (.array .byte)) (t' := .byte) (by decide) (by decide)))
      have f5_4 := Aq3.other W5 nt3
      have zs5 : h0.size ≤ h5.size := by rw [W5.size]; exact Kq3.1
      have N5 := Fr.snoc X5 N3 ga
      have K5 : Keep h0 h5 [a] := K3.wr W5 (Or.inl (by simp))
      refine gLoadAN X5 hx (hb hby d_jdk_42_method_149_51) (pc' := 52) rfl rfl rfl ?_
      refine gLoadA X5 hx (hb hby d_jdk_42_method_149_52) (pc' := 54) rfl rfl rfl ?_
      refine gPutF X5 hx hZ hown (hw _ (List.mem_of_getElem? (i := 21) rfl)) Via.refl e5 f5_3 f5_1 (Or.inr ⟨(hw _ (List.mem_of_getElem? (i := 17) rfl)), rfl, hnm⟩) (hw _ (List.mem_of_getElem? (i := 3) rfl)) (ty := (.array .byte)) (by decide) rfl rfl (hb hby d_jdk_42_method_149_54) (pc' := 57) rfl (fun T6 h6 X6 e6 W6 => ?_)
      have f6_0 := f5_0.wr W6
      have f6_1 := f5_1.wr W6
      have f6_2 := f5_2.other W6 (Or.inr (slot_ne (Or.inr (hw _ (List.mem_of_getElem? (i := 18) rfl))) (Or.inr (hw _ (List.mem_of_getElem? (i := 17) rfl))) (by decide) (t := .byte) (t' := (.array .byte)) (by decide) (by decide)))
      have f6_3 := f5_3.same W6
      have f6_4 := f5_4.other W6 nt3
      have zs6 : h0.size ≤ h6.size := by rw [W6.size]; exact zs5
      have N6 := Fr.snoc X6 N5 ga
      have K6 : Keep h0 h6 [a] := K5.wr W6 (Or.inl (by simp))
      exact gRetV X6 hx hlk hret (hb hby d_jdk_42_method_149_57) (by decide) (by decide) (⟨t3, ct3, rfl, N6, by rw [e6]; exact K6, gt3, by rw [e6]; exact f6_1, by rw [e6]; exact f6_2, by rw [e6]; exact f6_3, by rw [e6]; exact f6_4⟩)
  · exact absurd c5 (by decide)
theorem ef_c_sinit_4 (m : MethodId) (a : Addr) (x : Addr) : entryFrame m #[(.ref a), (.ref x)] 2 = mkF m 0 #[.val (.ref a), .val (.ref x)] [] := by first | (simp [entryFrame, mkF, argsToLocals, Value.category]; done) | rfl
set_option maxRecDepth 65536 in
set_option maxHeartbeats 40000000 in
theorem c_sinit_4 (l : Launch) (Z : State) (a0 : Array Value) (hw : ∀ d ∈ tables_1, d.before a0 Z = true) (a x : Addr) (cx : ClassId) (n0 : Nat) (c0 c1 c2 c3 : Int32) (h0 : Heap) (hCpt : Cpt Z h0) (ga : n0 ≤ a) (gz : n0 ≤ h0.size) (hax : x ≠ a) (E : Exa Z h0 a "java/lang/String") (C : Fld Z h0 a "java/lang/String" "coder" "B" (.int 0)) (V : Fld Z h0 a "java/lang/String" "value" "[B" .null) (A : Arv Z h0 x cx .char 4 [.int c0, .int c1, .int c2, .int c3] (.int 0)) (hc0 : 0 ≤ c0.toInt ∧ c0.toInt ≤ 255) (hc1 : 0 ≤ c1.toInt ∧ c1.toInt ≤ 255) (hc2 : 0 ≤ c2.toInt ∧ c2.toInt ≤ 255) (hc3 : 0 ≤ c3.toInt ∧ c3.toInt ≤ 255) :
    Ctr l Z (⟨"java/lang/String", "<init>", "([C)V"⟩ : MethodName) jdk_42_method_3_code 2 none [] ({ frames := 3, cells := 1, slots := 4, locals := 54 } : Room) #[(.ref a), (.ref x)] h0 (fun v h L => ∃ (t : Addr) (ct : ClassId), v = none ∧ Fr n0 L ∧ Keep h0 h [a] ∧ h0.size ≤ t ∧ Exa Z h a "java/lang/String" ∧ Fld Z h a "java/lang/String" "coder" "B" (.int 0) ∧ Fld Z h a "java/lang/String" "value" "[B" (.ref t) ∧ Arv Z h t ct .byte 4 [by8 c0, by8 c1, by8 c2, by8 c3] (.int 0)) := by
  refine Ctr.of (plainFor_of_name pn_3) ?_
  intro p e s m below meth c s₁ hx hby hml hret hown hnm hZ hlk X0 e0
  refine Goes.cast (ef_c_sinit_4 m a x) ?_
  refine gLoadAN X0 hx (hb hby d_jdk_42_method_3_0) (pc' := 1) rfl rfl rfl ?_
  refine gLoadAN X0 hx (hb hby d_jdk_42_method_3_1) (pc' := 2) rfl rfl rfl ?_
  refine gIconst X0 hx (v := (0 : Int32)) (hb hby d_jdk_42_method_3_2) (pc' := 3) rfl rfl ?_
  refine gLoadAN X0 hx (hb hby d_jdk_42_method_3_3) (pc' := 4) rfl rfl rfl ?_
  refine gArrLen X0 hx hZ e0 A (hb hby d_jdk_42_method_3_4) (pc' := 5) rfl ?_
  refine gNull X0 hx (hb hby d_jdk_42_method_3_5) (pc' := 6) rfl ?_
  refine gCallI X0 hx hZ (y := (⟨"java/lang/String", "<init>", "([CIILjava/lang/Void;)V"⟩ : MethodName)) rfl hown e0 (by rw [hml]; rfl) (hw _ (List.mem_of_getElem? (i := 8) rfl)) (hw _ (List.mem_of_getElem? (i := 9) rfl)) (hw _ (List.mem_of_getElem? (i := 4) rfl)) (hw _ (List.mem_of_getElem? (i := 11) rfl)) (by decide) (argsL := [(.ref x), (.int (0 : Int32)), (.int (4 : Int32)), .null]) (st := []) (c_sinit_4v l Z a0 hw a x cx n0 c0 c1 c2 c3 h0 hCpt ga gz hax E C V A hc0 hc1 hc2 hc3) (lenOf pd_13 rfl) (hb hby d_jdk_42_method_3_6) (pc' := 9) rfl rfl (by decide) (W := 0) (Nat.le_of_eq rfl) (by decide) (by decide) (by decide) ?_
  intro T1 v1 L1 X1 hQ1
  obtain ⟨t, ct, rfl, Nq, Kq, gt, Eq, Cq, Vq, Aq⟩ := hQ1
  exact gRetV X1 hx hlk hret (hb hby d_jdk_42_method_3_9) (by decide) (by decide) (⟨t, ct, rfl, Nq, Kq, gt, Eq, Cq, Vq, Aq⟩)
theorem d_jdk_42_method_149_8 : decode jdk_42_method_149_code 8 = .ok (.aload_n 0, 1) := by decide +kernel
theorem d_jdk_42_method_149_9 : decode jdk_42_method_149_code 9 = .ok (.ldc 7, 2) := by decide +kernel
theorem d_jdk_42_method_149_11 : decode jdk_42_method_149_code 11 = .ok (.getfield 9, 3) := by decide +kernel
theorem d_jdk_42_method_149_14 : decode jdk_42_method_149_code 14 = .ok (.putfield 9, 3) := by decide +kernel
theorem d_jdk_42_method_149_17 : decode jdk_42_method_149_code 17 = .ok (.aload_n 0, 1) := by decide +kernel
theorem d_jdk_42_method_149_18 : decode jdk_42_method_149_code 18 = .ok (.ldc 7, 2) := by decide +kernel
theorem d_jdk_42_method_149_20 : decode jdk_42_method_149_code 20 = .ok (.getfield 15, 3) := by decide +kernel
theorem d_jdk_42_method_149_23 : decode jdk_42_method_149_code 23 = .ok (.putfield 15, 3) := by decide +kernel
theorem d_jdk_42_method_149_26 : decode jdk_42_method_149_code 26 = .ok (.return_, 1) := by decide +kernel
theorem ef_c_sinit_0v (m : MethodId) (a : Addr) (x : Addr) : entryFrame m #[(.ref a), (.ref x), (.int (0 : Int32)), (.int (0 : Int32)), .null] 6 = mkF m 0 #[.val (.ref a), .val (.ref x), .val (.int (0 : Int32)), .val (.int (0 : Int32)), .val .null, .unset] [] := by first | (simp [entryFrame, mkF, argsToLocals, Value.category]; done) | rfl
set_option maxRecDepth 65536 in
set_option maxHeartbeats 40000000 in
theorem c_sinit_0v (l : Launch) (Z : State) (a0 : Array Value) (hw : ∀ d ∈ tables_1, d.before a0 Z = true) (a x : Addr) (cx : ClassId) (n0 : Nat) (h0 : Heap) (hEL : EW Z a0 [("java/lang/String", 7)]) (ga : n0 ≤ a) (E : Exa Z h0 a "java/lang/String") (C : Fld Z h0 a "java/lang/String" "coder" "B" (.int 0)) (V : Fld Z h0 a "java/lang/String" "value" "[B" .null) (A : Arv Z h0 x cx .char 0 [] (.int 0)) :
    CtrH l Z [("java/lang/String", 7)] [a] (⟨"java/lang/String", "<init>", "([CIILjava/lang/Void;)V"⟩ : MethodName) jdk_42_method_149_code 6 none [] ({ frames := 2, cells := 4, slots := 8, locals := 37 } : Room) #[(.ref a), (.ref x), (.int (0 : Int32)), (.int (0 : Int32)), .null] h0 (fun v h L => ∃ (t : Addr) (ct : ClassId), v = none ∧ Fr n0 L ∧ Keep h0 h [a] ∧ Exa Z h a "java/lang/String" ∧ Fld Z h a "java/lang/String" "coder" "B" (.int 0) ∧ Fld Z h a "java/lang/String" "value" "[B" (.ref t) ∧ Arv Z h t ct .byte 0 [] (.int 0)) := by
  refine CtrH.of (plainFor_of_name pn_3) ?_
  intro p e s m below meth c s₁ hx hby hml hret hown hnm hZ hlk X0 e0 hS H0 hSafe
  have wS : ∀ a ∈ Bundle.stringAtoms, a.before a0 Z = true := by
    intro d hd
    simp only [Bundle.stringAtoms, Bundle.sN, List.mem_cons, List.not_mem_nil, or_false] at hd
    rcases hd with rfl | rfl | rfl | rfl | rfl | rfl | rfl
    · exact (hw _ (List.mem_of_getElem? (i := 4) rfl))
    · exact (hw _ (List.mem_of_getElem? (i := 3) rfl))
    · exact (hw _ (List.mem_of_getElem? (i := 16) rfl))
    · exact (hw _ (List.mem_of_getElem? (i := 17) rfl))
    · exact (hw _ (List.mem_of_getElem? (i := 18) rfl))
    · exact (hw _ (List.mem_of_getElem? (i := 19) rfl))
    · exact (hw _ (List.mem_of_getElem? (i := 20) rfl))
  refine Goes.cast (ef_c_sinit_0v m a x) ?_
  refine gLoadAN X0 hx (hb hby d_jdk_42_method_149_0) (pc' := 1) rfl rfl rfl ?_
  refine gInitO X0 hx hZ hown (hw _ (List.mem_of_getElem? (i := 12) rfl)) (hw _ (List.mem_of_getElem? (i := 13) rfl)) (hw _ (List.mem_of_getElem? (i := 14) rfl)) e0 (by rw [hml]; rfl) (hb hby d_jdk_42_method_149_1) (pc' := 4) rfl (by decide) (W := 0) (Nat.le_of_eq rfl) (by decide) (fun T1 X1 e1 => ?_)
  refine gLoadIN X1 hx (hb hby d_jdk_42_method_149_4) (pc' := 5) rfl rfl ?_
  refine gIfNeT X1 hx (hb hby d_jdk_42_method_149_5) (pc' := 27) (by decide) (by decide) (pn := 8) rfl (fun (c5 : ¬ (0 : Int) = (0 : Int)) => ?_) (fun (c5 : (0 : Int) = (0 : Int)) => ?_)
  · exact absurd c5 (by decide)
  · refine gLoadAN X1 hx (hb hby d_jdk_42_method_149_8) (pc' := 9) rfl rfl rfl ?_
    refine gLdcC X1 hx hZ hown (hw _ (List.mem_of_getElem? (i := 15) rfl)) wS e1 hS (Nat.zero_le _) hEL (by simp) H0 (vs := []) (z := 0) ⟨by decide, by decide⟩ (by decide) (by decide) (hb hby d_jdk_42_method_149_9) (pc' := 11) rfl (n := 0) (by decide) (by decide) (by decide) (by decide) (fun a2 T2 h2 k2 b2 ck2 X2 e2 E2 hS hk2 hZ hown C2 H2 Ex2 Fc2 Fv2 A2 sf2 => ?_)
    have s2_0 := C2.safe E.lt (hSafe _ (by simp))
    have f2_0 := E.ext E2
    have f2_1 := C.ext E2
    have f2_2 := V.ext E2
    have zs2 : h0.size ≤ h2.size := Nat.le_trans (Nat.le_refl _) E2.1
    have K2 : Keep h0 h2 [a] := (Keep.refl h0 [a]).ext E2
    refine gGetF X2 hx hZ hown (hw _ (List.mem_of_getElem? (i := 21) rfl)) Via.refl e2 Fv2 (hb hby d_jdk_42_method_149_11) (pc' := 14) rfl (fun T3 X3 e3 => ?_)
    refine gPutF X3 hx hZ hown (hw _ (List.mem_of_getElem? (i := 21) rfl)) Via.refl e3 f2_2 f2_0 (Or.inr ⟨(hw _ (List.mem_of_getElem? (i := 17) rfl)), rfl, hnm⟩) (hw _ (List.mem_of_getElem? (i := 3) rfl)) (ty := (.array .byte)) (by decide) rfl rfl (hb hby d_jdk_42_method_149_14) (pc' := 17) rfl (fun T4 h4 X4 e4 W4 => ?_)
    have S4 := s2_0
    have H4 := H2.trans (CHr.wr W4 S4 H2.1)
    have hk4 := Nat.le_trans hk2 (Nat.le_of_eq W4.size.symm)
    have s4_0 := Safe.wr W4 S4 H2.1 s2_0
    have f4_0 := f2_0.wr W4
    have f4_1 := f2_1.other W4 (Or.inr (slot_ne (Or.inr (hw _ (List.mem_of_getElem? (i := 18) rfl))) (Or.inr (hw _ (List.mem_of_getElem? (i := 17) rfl))) (by decide) (t := .byte) (t' := (.array .byte)) (by decide) (by decide)))
    have f4_2 := f2_2.same W4
    have f4_3 := Ex2.wr W4
    have f4_4 := Fc2.other W4 (Or.inl (Ne.symm (sf2 _ s2_0).1))
    have f4_5 := Fv2.other W4 (Or.inl (Ne.symm (sf2 _ s2_0).1))
    have f4_6 := A2.other W4 (Ne.symm (sf2 _ s2_0).2)
    have zs4 : h0.size ≤ h4.size := by rw [W4.size]; exact zs2
    have N4 := Fr.snoc X4 (Fr.nil n0) ga
    have K4 : Keep h0 h4 [a] := K2.wr W4 (Or.inl (by simp))
    refine gLoadAN X4 hx (hb hby d_jdk_42_method_149_17) (pc' := 18) rfl rfl rfl ?_
    refine gLdcC X4 hx hZ hown (hw _ (List.mem_of_getElem? (i := 15) rfl)) wS e4 hS hk4 hEL (by simp) H4 (vs := []) (z := 0) ⟨by decide, by decide⟩ (by decide) (by decide) (hb hby d_jdk_42_method_149_18) (pc' := 20) rfl (n := 0) (by decide) (by decide) (by decide) (by decide) (fun a5 T5 h5 k5 b5 ck5 X5 e5 E5 hS hk5 hZ hown C5 H5 Ex5 Fc5 Fv5 A5 sf5 => ?_)
    have s5_0 := C5.safe f4_0.lt s4_0
    have f5_0 := f4_0.ext E5
    have f5_1 := f4_1.ext E5
    have f5_2 := f4_2.ext E5
    have f5_3 := f4_3.ext E5
    have f5_4 := f4_4.ext E5
    have f5_5 := f4_5.ext E5
    have f5_6 := f4_6.ext E5
    have zs5 : h0.size ≤ h5.size := Nat.le_trans zs4 E5.1
    have K5 : Keep h0 h5 [a] := K4.ext E5
    refine gGetF X5 hx hZ hown (hw _ (List.mem_of_getElem? (i := 22) rfl)) Via.refl e5 Fc5 (hb hby d_jdk_42_method_149_20) (pc' := 23) rfl (fun T6 X6 e6 => ?_)
    refine gPutF X6 hx hZ hown (hw _ (List.mem_of_getElem? (i := 22) rfl)) Via.refl e6 f5_1 f5_0 (Or.inr ⟨(hw _ (List.mem_of_getElem? (i := 18) rfl)), rfl, hnm⟩) (hw _ (List.mem_of_getElem? (i := 3) rfl)) (ty := .byte) (by decide) rfl rfl (hb hby d_jdk_42_method_149_23) (pc' := 26) rfl (fun T7 h7 X7 e7 W7 => ?_)
    have S7 := s5_0
    have H7 := H5.trans (CHr.wr W7 S7 H5.1)
    have hk7 := Nat.le_trans hk5 (Nat.le_of_eq W7.size.symm)
    have s7_0 := Safe.wr W7 S7 H5.1 s5_0
    have f7_0 := f5_0.wr W7
    have f7_1 := f5_1.same W7
    have f7_2 := f5_2.other W7 (Or.inr (slot_ne (Or.inr (hw _ (List.mem_of_getElem? (i := 17) rfl))) (Or.inr (hw _ (List.mem_of_getElem? (i := 18) rfl))) (by decide) (t := (.array .byte)) (t' := .byte) (by decide) (by decide)))
    have f7_3 := f5_3.wr W7
    have f7_4 := f5_4.other W7 (Or.inl (Ne.symm (sf2 _ s2_0).1))
    have f7_5 := f5_5.other W7 (Or.inl (Ne.symm (sf2 _ s2_0).1))
    have f7_6 := f5_6.other W7 (Ne.symm (sf2 _ s2_0).2)
    have f7_7 := Ex5.wr W7
    have f7_8 := Fc5.other W7 (Or.inl (Ne.symm (sf5 _ s5_0).1))
    have f7_9 := Fv5.other W7 (Or.inl (Ne.symm (sf5 _ s5_0).1))
    have f7_10 := A5.other W7 (Ne.symm (sf5 _ s5_0).2)
    have zs7 : h0.size ≤ h7.size := by rw [W7.size]; exact zs5
    have N7 := Fr.snoc X7 N4 ga
    have K7 : Keep h0 h7 [a] := K5.wr W7 (Or.inl (by simp))
    exact gRetHV X7 hx hlk hret (hb hby d_jdk_42_method_149_26) e7 hS hk7 hZ hEL H7 (by decide) (by decide) (⟨b2, _, rfl, N7, by rw [e7]; exact K7, by rw [e7]; exact f7_0, by rw [e7]; exact f7_1, by rw [e7]; exact f7_2, by rw [e7]; exact f7_6⟩)
theorem ef_c_sinit_0 (m : MethodId) (a : Addr) (x : Addr) : entryFrame m #[(.ref a), (.ref x)] 2 = mkF m 0 #[.val (.ref a), .val (.ref x)] [] := by first | (simp [entryFrame, mkF, argsToLocals, Value.category]; done) | rfl
set_option maxRecDepth 65536 in
set_option maxHeartbeats 40000000 in
theorem c_sinit_0 (l : Launch) (Z : State) (a0 : Array Value) (hw : ∀ d ∈ tables_1, d.before a0 Z = true) (a x : Addr) (cx : ClassId) (n0 : Nat) (h0 : Heap) (hEL : EW Z a0 [("java/lang/String", 7)]) (ga : n0 ≤ a) (E : Exa Z h0 a "java/lang/String") (C : Fld Z h0 a "java/lang/String" "coder" "B" (.int 0)) (V : Fld Z h0 a "java/lang/String" "value" "[B" .null) (A : Arv Z h0 x cx .char 0 [] (.int 0)) :
    CtrH l Z [("java/lang/String", 7)] [a] (⟨"java/lang/String", "<init>", "([C)V"⟩ : MethodName) jdk_42_method_3_code 2 none [] ({ frames := 3, cells := 4, slots := 8, locals := 54 } : Room) #[(.ref a), (.ref x)] h0 (fun v h L => ∃ (t : Addr) (ct : ClassId), v = none ∧ Fr n0 L ∧ Keep h0 h [a] ∧ Exa Z h a "java/lang/String" ∧ Fld Z h a "java/lang/String" "coder" "B" (.int 0) ∧ Fld Z h a "java/lang/String" "value" "[B" (.ref t) ∧ Arv Z h t ct .byte 0 [] (.int 0)) := by
  refine CtrH.of (plainFor_of_name pn_3) ?_
  intro p e s m below meth c s₁ hx hby hml hret hown hnm hZ hlk X0 e0 hS H0 hSafe
  refine Goes.cast (ef_c_sinit_0 m a x) ?_
  refine gLoadAN X0 hx (hb hby d_jdk_42_method_3_0) (pc' := 1) rfl rfl rfl ?_
  refine gLoadAN X0 hx (hb hby d_jdk_42_method_3_1) (pc' := 2) rfl rfl rfl ?_
  refine gIconst X0 hx (v := (0 : Int32)) (hb hby d_jdk_42_method_3_2) (pc' := 3) rfl rfl ?_
  refine gLoadAN X0 hx (hb hby d_jdk_42_method_3_3) (pc' := 4) rfl rfl rfl ?_
  refine gArrLen X0 hx hZ e0 A (hb hby d_jdk_42_method_3_4) (pc' := 5) rfl ?_
  refine gNull X0 hx (hb hby d_jdk_42_method_3_5) (pc' := 6) rfl ?_
  refine gCallIH X0 hx hZ (y := (⟨"java/lang/String", "<init>", "([CIILjava/lang/Void;)V"⟩ : MethodName)) rfl hown e0 (by rw [hml]; rfl) hS (Nat.zero_le _) hEL H0 (hw _ (List.mem_of_getElem? (i := 8) rfl)) (hw _ (List.mem_of_getElem? (i := 9) rfl)) (hw _ (List.mem_of_getElem? (i := 4) rfl)) (hw _ (List.mem_of_getElem? (i := 11) rfl)) (by decide) (sl1 E.lt (hSafe _ (by simp))) (argsL := [(.ref x), (.int (0 : Int32)), (.int (0 : Int32)), .null]) (st := []) (c_sinit_0v l Z a0 hw a x cx n0 h0 hEL ga E C V A) (lenOf pd_13 rfl) (hb hby d_jdk_42_method_3_6) (pc' := 9) rfl rfl (by decide) (W := 0) (Nat.le_of_eq rfl) (by decide) (by decide) (by decide) ?_
  intro T1 v1 L1 X1 hS hZ hown C1 H1 hQ1
  have s1_0 := C1.safe E.lt (hSafe _ (by simp))
  obtain ⟨t, ct, rfl, Nq, Kq, Eq, Cq, Vq, Aq⟩ := hQ1
  exact gRetHV X1 hx hlk hret (hb hby d_jdk_42_method_3_9) rfl hS (Nat.le_refl _) hZ hEL H1 (by decide) (by decide) (⟨t, ct, rfl, Nq, Kq, Eq, Cq, Vq, Aq⟩)
theorem pd_11 : parseMethodDescriptor "([C)V" = some ⟨[(.array .char)], none⟩ := by decide +kernel
theorem pd_8 : parseMethodDescriptor "(Ljava/lang/String;)Z" = some ⟨[(.object "java/lang/String")], some .boolean⟩ := by decide +kernel
theorem pd_4 : parseMethodDescriptor "(C)Z" = some ⟨[.char], some .boolean⟩ := by decide +kernel
theorem ef_c_law (m : MethodId) (p0 : Int32) (p1 : Int32) (p2 : Int32) (p3 : Int32) (p4 : Int32) : entryFrame m #[(.int p0), (.int p1), (.int p2), (.int p3), (.int p4)] 13 = mkF m 0 #[.val (.int p0), .val (.int p1), .val (.int p2), .val (.int p3), .val (.int p4), .unset, .unset, .unset, .unset, .unset, .unset, .unset, .unset] [] := by first | (simp [entryFrame, mkF, argsToLocals, Value.category]; done) | rfl
set_option maxRecDepth 65536 in
set_option maxHeartbeats 40000000 in
theorem c_law (l : Launch) (Z : State) (a0 : Array Value) (hw : ∀ d ∈ tables_1, d.before a0 Z = true) (p0 p1 p2 p3 p4 : Int32) (h0 : Heap) (hEL : EW Z a0 [("java/lang/String", 7)]) (hCpt : Cpt Z h0) (hSio : Sio Z h0) :
    CtrH l Z [("java/lang/String", 7)] [] x code maxLocals ret tables_1 room_1 #[(.int p0), (.int p1), (.int p2), (.int p3), (.int p4)] h0 (Law1 h0) := by
  refine CtrH.of (plainFor_of_name pn_1) ?_
  intro p e s m below meth c s₁ hx hby hml hret hown hnm hZ hlk X0 e0 hS H0 hSafe
  replace hml : c.maxLocals = 13 := hml
  refine Goes.cast (ef_c_law m p0 p1 p2 p3 p4) ?_
  refine gLoadIN X0 hx (hb hby at_0) (pc' := 1) rfl rfl ?_
  refine gLdc X0 hx hZ hown (hw _ (List.mem_of_getElem? (i := 0) rfl)) (hb hby at_1) (pc' := 3) rfl ?_
  refine gIand X0 hx (hb hby at_3) (pc' := 4) rfl ?_
  refine gIconst X0 hx (v := (5 : Int32)) (hb hby at_4) (pc' := 5) rfl rfl ?_
  refine gIrem X0 hx (hb hby at_5) (pc' := 6) (by decide) rfl ?_
  rcases own_rem p0 with hk | hk | hk | hk | hk <;> rw [hk]
  · refine gStoreI X0 hx (hb hby at_6) (l' := #[.val (.int p0), .val (.int p1), .val (.int p2), .val (.int p3), .val (.int p4), .val (.int (0 : Int32)), .unset, .unset, .unset, .unset, .unset, .unset, .unset]) (pc' := 8) rfl rfl ?_
    refine gLoadIN X0 hx (hb hby at_8) (pc' := 9) rfl rfl ?_
    refine gSipush X0 hx (v := (255 : Int32)) (hb hby at_9) (pc' := 12) rfl rfl ?_
    refine gIand X0 hx (hb hby at_12) (pc' := 13) rfl ?_
    refine gI2c X0 hx (hb hby at_13) (pc' := 14) rfl ?_
    generalize hg_c0 : ((p1 &&& (255 : Int32)).toUInt32.toUInt16.toUInt32.toInt32) = c0
    have hc0 : 0 ≤ c0.toInt ∧ c0.toInt ≤ 255 := by rw [← hg_c0]; exact own_char _
    refine gStoreI X0 hx (hb hby at_14) (l' := #[.val (.int p0), .val (.int p1), .val (.int p2), .val (.int p3), .val (.int p4), .val (.int (0 : Int32)), .val (.int c0), .unset, .unset, .unset, .unset, .unset, .unset]) (pc' := 16) rfl rfl ?_
    refine gLoadIN X0 hx (hb hby at_16) (pc' := 17) rfl rfl ?_
    refine gSipush X0 hx (v := (255 : Int32)) (hb hby at_17) (pc' := 20) rfl rfl ?_
    refine gIand X0 hx (hb hby at_20) (pc' := 21) rfl ?_
    refine gI2c X0 hx (hb hby at_21) (pc' := 22) rfl ?_
    generalize hg_c1 : ((p2 &&& (255 : Int32)).toUInt32.toUInt16.toUInt32.toInt32) = c1
    have hc1 : 0 ≤ c1.toInt ∧ c1.toInt ≤ 255 := by rw [← hg_c1]; exact own_char _
    refine gStoreI X0 hx (hb hby at_22) (l' := #[.val (.int p0), .val (.int p1), .val (.int p2), .val (.int p3), .val (.int p4), .val (.int (0 : Int32)), .val (.int c0), .val (.int c1), .unset, .unset, .unset, .unset, .unset]) (pc' := 24) rfl rfl ?_
    refine gLoadIN X0 hx (hb hby at_24) (pc' := 25) rfl rfl ?_
    refine gSipush X0 hx (v := (255 : Int32)) (hb hby at_25) (pc' := 28) rfl rfl ?_
    refine gIand X0 hx (hb hby at_28) (pc' := 29) rfl ?_
    refine gI2c X0 hx (hb hby at_29) (pc' := 30) rfl ?_
    generalize hg_c2 : ((p3 &&& (255 : Int32)).toUInt32.toUInt16.toUInt32.toInt32) = c2
    have hc2 : 0 ≤ c2.toInt ∧ c2.toInt ≤ 255 := by rw [← hg_c2]; exact own_char _
    refine gStoreI X0 hx (hb hby at_30) (l' := #[.val (.int p0), .val (.int p1), .val (.int p2), .val (.int p3), .val (.int p4), .val (.int (0 : Int32)), .val (.int c0), .val (.int c1), .val (.int c2), .unset, .unset, .unset, .unset]) (pc' := 32) rfl rfl ?_
    refine gLoadI X0 hx (hb hby at_32) (pc' := 34) rfl rfl ?_
    refine gSipush X0 hx (v := (255 : Int32)) (hb hby at_34) (pc' := 37) rfl rfl ?_
    refine gIand X0 hx (hb hby at_37) (pc' := 38) rfl ?_
    refine gI2c X0 hx (hb hby at_38) (pc' := 39) rfl ?_
    generalize hg_c3 : ((p4 &&& (255 : Int32)).toUInt32.toUInt16.toUInt32.toInt32) = c3
    have hc3 : 0 ≤ c3.toInt ∧ c3.toInt ≤ 255 := by rw [← hg_c3]; exact own_char _
    refine gStoreI X0 hx (hb hby at_39) (l' := #[.val (.int p0), .val (.int p1), .val (.int p2), .val (.int p3), .val (.int p4), .val (.int (0 : Int32)), .val (.int c0), .val (.int c1), .val (.int c2), .val (.int c3), .unset, .unset, .unset]) (pc' := 41) rfl rfl ?_
    refine gLoadI X0 hx (hb hby at_41) (pc' := 43) rfl rfl ?_
    refine gIfNeT X0 hx (hb hby at_43) (pc' := 54) (by decide) (by decide) (pn := 46) rfl (fun (c43 : ¬ (0 : Int) = (0 : Int)) => ?_) (fun (c43 : (0 : Int) = (0 : Int)) => ?_)
    · exact absurd c43 (by decide)
    · refine gIconst X0 hx (v := (0 : Int32)) (hb hby at_46) (pc' := 47) rfl rfl ?_
      refine gNewP X0 hx hZ (hw _ (List.mem_of_getElem? (i := 1) rfl)) e0 (n := (0 : Int32)) (hb hby at_47) (by decide) (cap := 0) (by decide) (by decide) (by decide) (by decide) 0 (pc' := 49) rfl (fun T1 h1 b1 ck1 X1 e1 g1 E1 A1 => ?_)
      have H1 := H0.trans (CHr.ext E1 H0.1)
      have hk1 := Nat.le_trans (Nat.zero_le _) E1.1
      have s1_b := Safe.ext E1 H0.1 (Safe.new (Nat.le_of_eq g1.symm))
      have f1_0 := hCpt.ext E1
      have f1_1 := hSio.ext E1
      have sz_b1 : h0.size ≤ b1 := Nat.le_trans (Nat.le_refl _) (Nat.le_of_eq g1.symm)
      have zs1 : h0.size ≤ h1.size := Nat.le_trans (Nat.le_refl _) E1.1
      have V1 : Arv Z h1 b1 ck1 .char (0 : Int32) [] (.int (0 : Int32)) := A1
      refine gStoreA X1 hx (hb hby at_49) (l' := #[.val (.int p0), .val (.int p1), .val (.int p2), .val (.int p3), .val (.int p4), .val (.int (0 : Int32)), .val (.int c0), .val (.int c1), .val (.int c2), .val (.int c3), .val (.ref b1), .unset, .unset]) (pc' := 51) rfl rfl rfl ?_
      refine gGoto X1 hx (hb hby at_51) (pc' := 151) (by decide) (by decide) ?_
      refine gNew X1 hx hZ hown (hw _ (List.mem_of_getElem? (i := 2) rfl)) (hw _ (List.mem_of_getElem? (i := 3) rfl)) (hw _ (List.mem_of_getElem? (i := 4) rfl)) e1 (hb hby at_151) (pc' := 154) rfl (by decide) (by decide) (fun T2 h2 b2 X2 e2 g2 E2 A2 D2 => ?_)
      have ne_b1_b2 : b1 ≠ b2 := Nat.ne_of_lt (Nat.lt_of_lt_of_eq V1.lt g2.symm)
      have H2 := H1.trans (CHr.ext E2 H1.1)
      have hk2 := Nat.le_trans hk1 E2.1
      have s2_0 := Safe.ext E2 H1.1 s1_b
      have s2_b := Safe.ext E2 H1.1 (Safe.new (Nat.le_of_eq g2.symm))
      have f2_0 := f1_0.ext E2
      have f2_1 := f1_1.ext E2
      have f2_2 := V1.ext E2
      have sz_b2 : h0.size ≤ b2 := Nat.le_trans zs1 (Nat.le_of_eq g2.symm)
      have zs2 : h0.size ≤ h2.size := Nat.le_trans zs1 E2.1
      have F2_value : Fld Z h2 b2 "java/lang/String" "value" "[B" .null := D2 (Or.inr (hw _ (List.mem_of_getElem? (i := 17) rfl))) (ty := (.array .byte)) (by decide)
      have F2_coder : Fld Z h2 b2 "java/lang/String" "coder" "B" (.int (0 : Int32)) := D2 (Or.inr (hw _ (List.mem_of_getElem? (i := 18) rfl))) (ty := .byte) (by decide)
      refine gDup X2 hx (hb hby at_154) (pc' := 155) rfl rfl ?_
      refine gLoadA X2 hx (hb hby at_155) (pc' := 157) rfl rfl rfl ?_
      refine gCallIH X2 hx hZ (y := (⟨"java/lang/String", "<init>", "([C)V"⟩ : MethodName)) rfl hown e2 (by rw [hml]; rfl) hS hk2 hEL H2 (hw _ (List.mem_of_getElem? (i := 5) rfl)) (hw _ (List.mem_of_getElem? (i := 6) rfl)) (hw _ (List.mem_of_getElem? (i := 4) rfl)) (hw _ (List.mem_of_getElem? (i := 7) rfl)) (by decide) (sl1 A2.lt s2_b) (argsL := [(.ref b1)]) (st := [(.ref b2)]) (c_sinit_0 l Z a0 hw b2 b1 _ h0.size h2 hEL sz_b2 A2 F2_coder F2_value f2_2) (lenOf pd_11 rfl) (hb hby at_157) (pc' := 160) rfl rfl (by decide) (W := 1) (Nat.le_of_eq rfl) (by decide) (by decide) (by decide) ?_
      intro T3 v3 L3 X3 hS hZ hown C3 H3 hQ3
      have s3_0 := C3.safe f2_2.lt s2_0
      have s3_1 := C3.safe A2.lt s2_b
      obtain ⟨t3, ct3, rfl, Nq3, Kq3, Eq3, Cq3, Vq3, Aq3⟩ := hQ3
      have N3 := Fr.app (Fr.nil h0.size) Nq3
      have f3_0 := own_cpt_keep f2_0 Kq3 (nsS (Exa.nostat A2) ns0)
      have f3_1 := own_sio_keep f2_1 Kq3 (nsS (Exa.nostat A2) ns0)
      have f3_2 := f2_2.keep Kq3 (ninS ne_b1_b2 nin0)
      have f3_3 := A2.keep Kq3
      have zs3 := Nat.le_trans zs2 Kq3.1
      refine gStoreA X3 hx (hb hby at_160) (l' := #[.val (.int p0), .val (.int p1), .val (.int p2), .val (.int p3), .val (.int p4), .val (.int (0 : Int32)), .val (.int c0), .val (.int c1), .val (.int c2), .val (.int c3), .val (.ref b1), .val (.ref b2), .unset]) (pc' := 162) rfl rfl rfl ?_
      refine gLoadI X3 hx (hb hby at_162) (pc' := 164) rfl rfl ?_
      refine gIconst X3 hx (v := (1 : Int32)) (hb hby at_164) (pc' := 165) rfl rfl ?_
      refine gIcmpLt X3 hx (hb hby at_165) (pc' := 176) (by decide) (by decide) (pn := 168) rfl (fun (c165 : (0 : Int) < (1 : Int)) => ?_) (fun (c165 : (1 : Int) ≤ (0 : Int)) => ?_)
      · refine gLoadI X3 hx (hb hby at_176) (pc' := 178) rfl rfl ?_
        refine gIconst X3 hx (v := (2 : Int32)) (hb hby at_178) (pc' := 179) rfl rfl ?_
        refine gIcmpLt X3 hx (hb hby at_179) (pc' := 190) (by decide) (by decide) (pn := 182) rfl (fun (c179 : (0 : Int) < (2 : Int)) => ?_) (fun (c179 : (2 : Int) ≤ (0 : Int)) => ?_)
        · refine gLoadI X3 hx (hb hby at_190) (pc' := 192) rfl rfl ?_
          refine gIconst X3 hx (v := (3 : Int32)) (hb hby at_192) (pc' := 193) rfl rfl ?_
          refine gIcmpLt X3 hx (hb hby at_193) (pc' := 204) (by decide) (by decide) (pn := 196) rfl (fun (c193 : (0 : Int) < (3 : Int)) => ?_) (fun (c193 : (3 : Int) ≤ (0 : Int)) => ?_)
          · refine gLoadI X3 hx (hb hby at_204) (pc' := 206) rfl rfl ?_
            refine gIconst X3 hx (v := (4 : Int32)) (hb hby at_206) (pc' := 207) rfl rfl ?_
            refine gIcmpLt X3 hx (hb hby at_207) (pc' := 218) (by decide) (by decide) (pn := 210) rfl (fun (c207 : (0 : Int) < (4 : Int)) => ?_) (fun (c207 : (4 : Int) ≤ (0 : Int)) => ?_)
            · refine gIconst X3 hx (v := (1 : Int32)) (hb hby at_218) (pc' := 219) rfl rfl ?_
              refine gGoto X3 hx (hb hby at_219) (pc' := 223) (by decide) (by decide) ?_
              refine gStoreI X3 hx (hb hby at_223) (l' := #[.val (.int p0), .val (.int p1), .val (.int p2), .val (.int p3), .val (.int p4), .val (.int (0 : Int32)), .val (.int c0), .val (.int c1), .val (.int c2), .val (.int c3), .val (.ref b1), .val (.ref b2), .val (.int (1 : Int32))]) (pc' := 225) rfl rfl ?_
              refine gLoadA X3 hx (hb hby at_225) (pc' := 227) rfl rfl rfl ?_
              refine gCallSJ X3 hx hZ (y := (⟨"com/example/anteroom/anteroom/HttpSyntax", "isFieldValue", "(Ljava/lang/String;)Z"⟩ : MethodName)) hown rfl (by rw [hml]; rfl) (hw _ (List.mem_of_getElem? (i := 23) rfl)) (hw _ (List.mem_of_getElem? (i := 24) rfl)) (hw _ (List.mem_of_getElem? (i := 25) rfl)) (hw _ (List.mem_of_getElem? (i := 26) rfl)) (by decide) (argsL := [(.ref b2)]) (st := []) (c_fv_0 l Z a0 hw b2 t3 ct3  _ f3_1 f3_0 Eq3 Cq3 Vq3 Aq3 ) (lenOf pd_8 rfl) (hb hby at_227) (pc' := 230) rfl rfl rfl rfl (by decide) (W := 0) (Nat.le_of_eq rfl) (by decide) (by decide) (by decide) ?_
              intro T4 X4 e4
              refine gLoadI X4 hx (hb hby at_230) (pc' := 232) rfl rfl ?_
              refine gIcmpNeT X4 hx (hb hby at_232) (pc' := 239) (by decide) (by decide) (pn := 235) rfl (fun (c232 : ¬ (1 : Int) = (1 : Int)) => ?_) (fun (c232 : (1 : Int) = (1 : Int)) => ?_)
              · exact absurd c232 (by decide)
              · refine gIconst X4 hx (v := (1 : Int32)) (hb hby at_235) (pc' := 236) rfl rfl ?_
                refine gGoto X4 hx (hb hby at_236) (pc' := 240) (by decide) (by decide) ?_
                exact gRetHN X4 hx hlk hret (by simp) (hb hby at_240) (w := (1 : Int32)) rfl e4 hS (Nat.le_refl _) hZ hEL H3 (by decide) (by decide) (⟨rfl, N3⟩)
            · exact absurd c207 (by decide)
          · exact absurd c193 (by decide)
        · exact absurd c179 (by decide)
      · exact absurd c165 (by decide)
  · refine gStoreI X0 hx (hb hby at_6) (l' := #[.val (.int p0), .val (.int p1), .val (.int p2), .val (.int p3), .val (.int p4), .val (.int (1 : Int32)), .unset, .unset, .unset, .unset, .unset, .unset, .unset]) (pc' := 8) rfl rfl ?_
    refine gLoadIN X0 hx (hb hby at_8) (pc' := 9) rfl rfl ?_
    refine gSipush X0 hx (v := (255 : Int32)) (hb hby at_9) (pc' := 12) rfl rfl ?_
    refine gIand X0 hx (hb hby at_12) (pc' := 13) rfl ?_
    refine gI2c X0 hx (hb hby at_13) (pc' := 14) rfl ?_
    generalize hg_c0 : ((p1 &&& (255 : Int32)).toUInt32.toUInt16.toUInt32.toInt32) = c0
    have hc0 : 0 ≤ c0.toInt ∧ c0.toInt ≤ 255 := by rw [← hg_c0]; exact own_char _
    refine gStoreI X0 hx (hb hby at_14) (l' := #[.val (.int p0), .val (.int p1), .val (.int p2), .val (.int p3), .val (.int p4), .val (.int (1 : Int32)), .val (.int c0), .unset, .unset, .unset, .unset, .unset, .unset]) (pc' := 16) rfl rfl ?_
    refine gLoadIN X0 hx (hb hby at_16) (pc' := 17) rfl rfl ?_
    refine gSipush X0 hx (v := (255 : Int32)) (hb hby at_17) (pc' := 20) rfl rfl ?_
    refine gIand X0 hx (hb hby at_20) (pc' := 21) rfl ?_
    refine gI2c X0 hx (hb hby at_21) (pc' := 22) rfl ?_
    generalize hg_c1 : ((p2 &&& (255 : Int32)).toUInt32.toUInt16.toUInt32.toInt32) = c1
    have hc1 : 0 ≤ c1.toInt ∧ c1.toInt ≤ 255 := by rw [← hg_c1]; exact own_char _
    refine gStoreI X0 hx (hb hby at_22) (l' := #[.val (.int p0), .val (.int p1), .val (.int p2), .val (.int p3), .val (.int p4), .val (.int (1 : Int32)), .val (.int c0), .val (.int c1), .unset, .unset, .unset, .unset, .unset]) (pc' := 24) rfl rfl ?_
    refine gLoadIN X0 hx (hb hby at_24) (pc' := 25) rfl rfl ?_
    refine gSipush X0 hx (v := (255 : Int32)) (hb hby at_25) (pc' := 28) rfl rfl ?_
    refine gIand X0 hx (hb hby at_28) (pc' := 29) rfl ?_
    refine gI2c X0 hx (hb hby at_29) (pc' := 30) rfl ?_
    generalize hg_c2 : ((p3 &&& (255 : Int32)).toUInt32.toUInt16.toUInt32.toInt32) = c2
    have hc2 : 0 ≤ c2.toInt ∧ c2.toInt ≤ 255 := by rw [← hg_c2]; exact own_char _
    refine gStoreI X0 hx (hb hby at_30) (l' := #[.val (.int p0), .val (.int p1), .val (.int p2), .val (.int p3), .val (.int p4), .val (.int (1 : Int32)), .val (.int c0), .val (.int c1), .val (.int c2), .unset, .unset, .unset, .unset]) (pc' := 32) rfl rfl ?_
    refine gLoadI X0 hx (hb hby at_32) (pc' := 34) rfl rfl ?_
    refine gSipush X0 hx (v := (255 : Int32)) (hb hby at_34) (pc' := 37) rfl rfl ?_
    refine gIand X0 hx (hb hby at_37) (pc' := 38) rfl ?_
    refine gI2c X0 hx (hb hby at_38) (pc' := 39) rfl ?_
    generalize hg_c3 : ((p4 &&& (255 : Int32)).toUInt32.toUInt16.toUInt32.toInt32) = c3
    have hc3 : 0 ≤ c3.toInt ∧ c3.toInt ≤ 255 := by rw [← hg_c3]; exact own_char _
    refine gStoreI X0 hx (hb hby at_39) (l' := #[.val (.int p0), .val (.int p1), .val (.int p2), .val (.int p3), .val (.int p4), .val (.int (1 : Int32)), .val (.int c0), .val (.int c1), .val (.int c2), .val (.int c3), .unset, .unset, .unset]) (pc' := 41) rfl rfl ?_
    refine gLoadI X0 hx (hb hby at_41) (pc' := 43) rfl rfl ?_
    refine gIfNeT X0 hx (hb hby at_43) (pc' := 54) (by decide) (by decide) (pn := 46) rfl (fun (c43 : ¬ (1 : Int) = (0 : Int)) => ?_) (fun (c43 : (1 : Int) = (0 : Int)) => ?_)
    · refine gLoadI X0 hx (hb hby at_54) (pc' := 56) rfl rfl ?_
      refine gIconst X0 hx (v := (1 : Int32)) (hb hby at_56) (pc' := 57) rfl rfl ?_
      refine gIcmpNeT X0 hx (hb hby at_57) (pc' := 73) (by decide) (by decide) (pn := 60) rfl (fun (c57 : ¬ (1 : Int) = (1 : Int)) => ?_) (fun (c57 : (1 : Int) = (1 : Int)) => ?_)
      · exact absurd c57 (by decide)
      · refine gIconst X0 hx (v := (1 : Int32)) (hb hby at_60) (pc' := 61) rfl rfl ?_
        refine gNewP X0 hx hZ (hw _ (List.mem_of_getElem? (i := 1) rfl)) e0 (n := (1 : Int32)) (hb hby at_61) (by decide) (cap := 1) (by decide) (by decide) (by decide) (by decide) 1 (pc' := 63) rfl (fun T5 h5 b5 ck5 X5 e5 g5 E5 A5 => ?_)
        have H5 := H0.trans (CHr.ext E5 H0.1)
        have hk5 := Nat.le_trans (Nat.zero_le _) E5.1
        have s5_b := Safe.ext E5 H0.1 (Safe.new (Nat.le_of_eq g5.symm))
        have f5_0 := hCpt.ext E5
        have f5_1 := hSio.ext E5
        have sz_b5 : h0.size ≤ b5 := Nat.le_trans (Nat.le_refl _) (Nat.le_of_eq g5.symm)
        have zs5 : h0.size ≤ h5.size := Nat.le_trans (Nat.le_refl _) E5.1
        have V5 : Arv Z h5 b5 ck5 .char (1 : Int32) [(.int (0 : Int32))] (.int (0 : Int32)) := A5
        refine gDup X5 hx (hb hby at_63) (pc' := 64) rfl rfl ?_
        refine gIconst X5 hx (v := (0 : Int32)) (hb hby at_64) (pc' := 65) rfl rfl ?_
        refine gLoadI X5 hx (hb hby at_65) (pc' := 67) rfl rfl ?_
        refine gCastore X5 hx hZ e5 (x := c0) V5 (j := (0 : Int32)) (by decide) (by decide) 0 (by decide) (by simp) (hb hby at_67) (pc' := 68) rfl (fun T6 h6 X6 e6 W6 A6 => ?_)
        have S6 := s5_b
        have H6 := H5.trans (CHr.wr W6 S6 H5.1)
        have hk6 := Nat.le_trans hk5 (Nat.le_of_eq W6.size.symm)
        have s6_0 := Safe.wr W6 S6 H5.1 s5_b
        have f6_0 := f5_0.wr W6
        have f6_1 := f5_1.wr W6
        have zs6 : h0.size ≤ h6.size := by rw [W6.size]; exact zs5
        have N6 := Fr.snoc X6 (Fr.nil h0.size) sz_b5
        have V6 : Arv Z h6 b5 _ .char (1 : Int32) [(.int c0)] (.int (0 : Int32)) := (by have q := A6; rw [own_nc (own_c8 hc0)] at q; exact q)
        refine gStoreA X6 hx (hb hby at_68) (l' := #[.val (.int p0), .val (.int p1), .val (.int p2), .val (.int p3), .val (.int p4), .val (.int (1 : Int32)), .val (.int c0), .val (.int c1), .val (.int c2), .val (.int c3), .val (.ref b5), .unset, .unset]) (pc' := 70) rfl rfl rfl ?_
        refine gGoto X6 hx (hb hby at_70) (pc' := 151) (by decide) (by decide) ?_
        refine gNew X6 hx hZ hown (hw _ (List.mem_of_getElem? (i := 2) rfl)) (hw _ (List.mem_of_getElem? (i := 3) rfl)) (hw _ (List.mem_of_getElem? (i := 4) rfl)) e6 (hb hby at_151) (pc' := 154) rfl (by decide) (by decide) (fun T7 h7 b7 X7 e7 g7 E7 A7 D7 => ?_)
        have ne_b5_b7 : b5 ≠ b7 := Nat.ne_of_lt (Nat.lt_of_lt_of_eq V6.lt g7.symm)
        have H7 := H6.trans (CHr.ext E7 H6.1)
        have hk7 := Nat.le_trans hk6 E7.1
        have s7_0 := Safe.ext E7 H6.1 s6_0
        have s7_b := Safe.ext E7 H6.1 (Safe.new (Nat.le_of_eq g7.symm))
        have f7_0 := f6_0.ext E7
        have f7_1 := f6_1.ext E7
        have f7_2 := V6.ext E7
        have sz_b7 : h0.size ≤ b7 := Nat.le_trans zs6 (Nat.le_of_eq g7.symm)
        have zs7 : h0.size ≤ h7.size := Nat.le_trans zs6 E7.1
        have F7_value : Fld Z h7 b7 "java/lang/String" "value" "[B" .null := D7 (Or.inr (hw _ (List.mem_of_getElem? (i := 17) rfl))) (ty := (.array .byte)) (by decide)
        have F7_coder : Fld Z h7 b7 "java/lang/String" "coder" "B" (.int (0 : Int32)) := D7 (Or.inr (hw _ (List.mem_of_getElem? (i := 18) rfl))) (ty := .byte) (by decide)
        refine gDup X7 hx (hb hby at_154) (pc' := 155) rfl rfl ?_
        refine gLoadA X7 hx (hb hby at_155) (pc' := 157) rfl rfl rfl ?_
        refine gCallI X7 hx hZ (y := (⟨"java/lang/String", "<init>", "([C)V"⟩ : MethodName)) rfl hown e7 (by rw [hml]; rfl) (hw _ (List.mem_of_getElem? (i := 5) rfl)) (hw _ (List.mem_of_getElem? (i := 6) rfl)) (hw _ (List.mem_of_getElem? (i := 4) rfl)) (hw _ (List.mem_of_getElem? (i := 7) rfl)) (by decide) (argsL := [(.ref b5)]) (st := [(.ref b7)]) (c_sinit_1 l Z a0 hw b7 b5 _ h0.size c0 h7 f7_0 sz_b7 zs7 ne_b5_b7 A7 F7_coder F7_value f7_2 hc0) (lenOf pd_11 rfl) (hb hby at_157) (pc' := 160) rfl rfl (by decide) (W := 1) (Nat.le_of_eq rfl) (by decide) (by decide) (by decide) ?_
        intro T8 v8 L8 X8 hQ8
        obtain ⟨t8, ct8, rfl, Nq8, Kq8, gt8, Eq8, Cq8, Vq8, Aq8⟩ := hQ8
        have N8 := Fr.app N6 Nq8
        have H8 := H7.trans (CHr.keep Kq8 (sfS s7_b sf0) H7.1)
        have hk8 := Nat.le_trans hk7 Kq8.1
        have s8_0 := Safe.keep Kq8 (sfS s7_b sf0) H7.1 s7_0
        have s8_1 := Safe.keep Kq8 (sfS s7_b sf0) H7.1 s7_b
        have f8_0 := own_cpt_keep f7_0 Kq8 (nsS (Exa.nostat A7) ns0)
        have f8_1 := own_sio_keep f7_1 Kq8 (nsS (Exa.nostat A7) ns0)
        have f8_2 := f7_2.keep Kq8 (ninS ne_b5_b7 nin0)
        have f8_3 := A7.keep Kq8
        have zs8 := Nat.le_trans zs7 Kq8.1
        refine gStoreA X8 hx (hb hby at_160) (l' := #[.val (.int p0), .val (.int p1), .val (.int p2), .val (.int p3), .val (.int p4), .val (.int (1 : Int32)), .val (.int c0), .val (.int c1), .val (.int c2), .val (.int c3), .val (.ref b5), .val (.ref b7), .unset]) (pc' := 162) rfl rfl rfl ?_
        refine gLoadI X8 hx (hb hby at_162) (pc' := 164) rfl rfl ?_
        refine gIconst X8 hx (v := (1 : Int32)) (hb hby at_164) (pc' := 165) rfl rfl ?_
        refine gIcmpLt X8 hx (hb hby at_165) (pc' := 176) (by decide) (by decide) (pn := 168) rfl (fun (c165 : (1 : Int) < (1 : Int)) => ?_) (fun (c165 : (1 : Int) ≤ (1 : Int)) => ?_)
        · exact absurd c165 (by decide)
        · refine gLoadI X8 hx (hb hby at_168) (pc' := 170) rfl rfl ?_
          refine gCallSJ X8 hx hZ (y := (⟨"com/example/anteroom/anteroom/HttpSyntaxIsFieldValuePinLaw", "ok", "(C)Z"⟩ : MethodName)) hown rfl (by rw [hml]; rfl) (hw _ (List.mem_of_getElem? (i := 48) rfl)) (hw _ (List.mem_of_getElem? (i := 49) rfl)) (hw _ (List.mem_of_getElem? (i := 50) rfl)) (hw _ (List.mem_of_getElem? (i := 51) rfl)) (by decide) (argsL := [(.int c0)]) (st := []) (c_ok l Z a0 hw c0 _) (lenOf pd_4 rfl) (hb hby at_170) (pc' := 173) rfl rfl rfl rfl (by decide) (W := 0) (Nat.le_of_eq rfl) (by decide) (by decide) (by decide) ?_
          intro T9 X9 e9
          refine gIfEq X9 hx (hb hby at_173) (pc' := 222) (by decide) (by decide) (pn := 176) rfl (fun (c173 : (b2i (decide (c0.toInt = 9 ∨ 32 ≤ c0.toInt ∧ c0.toInt ≠ 127))) = (0 : Int32)) => ?_) (fun (c173 : ¬ (b2i (decide (c0.toInt = 9 ∨ 32 ≤ c0.toInt ∧ c0.toInt ≠ 127))) = (0 : Int32)) => ?_)
          · refine gIconst X9 hx (v := (0 : Int32)) (hb hby at_222) (pc' := 223) rfl rfl ?_
            refine gStoreI X9 hx (hb hby at_223) (l' := #[.val (.int p0), .val (.int p1), .val (.int p2), .val (.int p3), .val (.int p4), .val (.int (1 : Int32)), .val (.int c0), .val (.int c1), .val (.int c2), .val (.int c3), .val (.ref b5), .val (.ref b7), .val (.int (0 : Int32))]) (pc' := 225) rfl rfl ?_
            refine gLoadA X9 hx (hb hby at_225) (pc' := 227) rfl rfl rfl ?_
            refine gCallSJ X9 hx hZ (y := (⟨"com/example/anteroom/anteroom/HttpSyntax", "isFieldValue", "(Ljava/lang/String;)Z"⟩ : MethodName)) hown e9 (by rw [hml]; rfl) (hw _ (List.mem_of_getElem? (i := 23) rfl)) (hw _ (List.mem_of_getElem? (i := 24) rfl)) (hw _ (List.mem_of_getElem? (i := 25) rfl)) (hw _ (List.mem_of_getElem? (i := 26) rfl)) (by decide) (argsL := [(.ref b7)]) (st := []) (c_fv_1 l Z a0 hw b7 t8 ct8 c0 _ f8_1 f8_0 Eq8 Cq8 Vq8 Aq8 hc0) (lenOf pd_8 rfl) (hb hby at_227) (pc' := 230) rfl rfl rfl rfl (by decide) (W := 0) (Nat.le_of_eq rfl) (by decide) (by decide) (by decide) ?_
            intro T10 X10 e10
            refine gLoadI X10 hx (hb hby at_230) (pc' := 232) rfl rfl ?_
            refine gIcmpNe X10 hx (hb hby at_232) (pc' := 239) (by decide) (by decide) (pn := 235) rfl (fun (c232 : ¬ (b2i (decide ((c0.toInt = 9 ∨ 32 ≤ c0.toInt ∧ c0.toInt ≠ 127)))) = (0 : Int32)) => ?_) (fun (c232 : (b2i (decide ((c0.toInt = 9 ∨ 32 ≤ c0.toInt ∧ c0.toInt ≠ 127)))) = (0 : Int32)) => ?_)
            · exact absurd (b2_f (fun q => of_decide_eq_false (b2_0.mp c173) q)) c232
            · refine gIconst X10 hx (v := (1 : Int32)) (hb hby at_235) (pc' := 236) rfl rfl ?_
              refine gGoto X10 hx (hb hby at_236) (pc' := 240) (by decide) (by decide) ?_
              exact gRetHN X10 hx hlk hret (by simp) (hb hby at_240) (w := (1 : Int32)) rfl e10 hS hk8 hZ hEL H8 (by decide) (by decide) (⟨rfl, N8⟩)
          · refine gLoadI X9 hx (hb hby at_176) (pc' := 178) rfl rfl ?_
            refine gIconst X9 hx (v := (2 : Int32)) (hb hby at_178) (pc' := 179) rfl rfl ?_
            refine gIcmpLt X9 hx (hb hby at_179) (pc' := 190) (by decide) (by decide) (pn := 182) rfl (fun (c179 : (1 : Int) < (2 : Int)) => ?_) (fun (c179 : (2 : Int) ≤ (1 : Int)) => ?_)
            · refine gLoadI X9 hx (hb hby at_190) (pc' := 192) rfl rfl ?_
              refine gIconst X9 hx (v := (3 : Int32)) (hb hby at_192) (pc' := 193) rfl rfl ?_
              refine gIcmpLt X9 hx (hb hby at_193) (pc' := 204) (by decide) (by decide) (pn := 196) rfl (fun (c193 : (1 : Int) < (3 : Int)) => ?_) (fun (c193 : (3 : Int) ≤ (1 : Int)) => ?_)
              · refine gLoadI X9 hx (hb hby at_204) (pc' := 206) rfl rfl ?_
                refine gIconst X9 hx (v := (4 : Int32)) (hb hby at_206) (pc' := 207) rfl rfl ?_
                refine gIcmpLt X9 hx (hb hby at_207) (pc' := 218) (by decide) (by decide) (pn := 210) rfl (fun (c207 : (1 : Int) < (4 : Int)) => ?_) (fun (c207 : (4 : Int) ≤ (1 : Int)) => ?_)
                · refine gIconst X9 hx (v := (1 : Int32)) (hb hby at_218) (pc' := 219) rfl rfl ?_
                  refine gGoto X9 hx (hb hby at_219) (pc' := 223) (by decide) (by decide) ?_
                  refine gStoreI X9 hx (hb hby at_223) (l' := #[.val (.int p0), .val (.int p1), .val (.int p2), .val (.int p3), .val (.int p4), .val (.int (1 : Int32)), .val (.int c0), .val (.int c1), .val (.int c2), .val (.int c3), .val (.ref b5), .val (.ref b7), .val (.int (1 : Int32))]) (pc' := 225) rfl rfl ?_
                  refine gLoadA X9 hx (hb hby at_225) (pc' := 227) rfl rfl rfl ?_
                  refine gCallSJ X9 hx hZ (y := (⟨"com/example/anteroom/anteroom/HttpSyntax", "isFieldValue", "(Ljava/lang/String;)Z"⟩ : MethodName)) hown e9 (by rw [hml]; rfl) (hw _ (List.mem_of_getElem? (i := 23) rfl)) (hw _ (List.mem_of_getElem? (i := 24) rfl)) (hw _ (List.mem_of_getElem? (i := 25) rfl)) (hw _ (List.mem_of_getElem? (i := 26) rfl)) (by decide) (argsL := [(.ref b7)]) (st := []) (c_fv_1 l Z a0 hw b7 t8 ct8 c0 _ f8_1 f8_0 Eq8 Cq8 Vq8 Aq8 hc0) (lenOf pd_8 rfl) (hb hby at_227) (pc' := 230) rfl rfl rfl rfl (by decide) (W := 0) (Nat.le_of_eq rfl) (by decide) (by decide) (by decide) ?_
                  intro T11 X11 e11
                  refine gLoadI X11 hx (hb hby at_230) (pc' := 232) rfl rfl ?_
                  refine gIcmpNe X11 hx (hb hby at_232) (pc' := 239) (by decide) (by decide) (pn := 235) rfl (fun (c232 : ¬ (b2i (decide ((c0.toInt = 9 ∨ 32 ≤ c0.toInt ∧ c0.toInt ≠ 127)))) = (1 : Int32)) => ?_) (fun (c232 : (b2i (decide ((c0.toInt = 9 ∨ 32 ≤ c0.toInt ∧ c0.toInt ≠ 127)))) = (1 : Int32)) => ?_)
                  · exact absurd (b2_t (of_decide_eq_true (b2_n0.mp c173))) c232
                  · refine gIconst X11 hx (v := (1 : Int32)) (hb hby at_235) (pc' := 236) rfl rfl ?_
                    refine gGoto X11 hx (hb hby at_236) (pc' := 240) (by decide) (by decide) ?_
                    exact gRetHN X11 hx hlk hret (by simp) (hb hby at_240) (w := (1 : Int32)) rfl e11 hS hk8 hZ hEL H8 (by decide) (by decide) (⟨rfl, N8⟩)
                · exact absurd c207 (by decide)
              · exact absurd c193 (by decide)
            · exact absurd c179 (by decide)
    · exact absurd c43 (by decide)
  · refine gStoreI X0 hx (hb hby at_6) (l' := #[.val (.int p0), .val (.int p1), .val (.int p2), .val (.int p3), .val (.int p4), .val (.int (2 : Int32)), .unset, .unset, .unset, .unset, .unset, .unset, .unset]) (pc' := 8) rfl rfl ?_
    refine gLoadIN X0 hx (hb hby at_8) (pc' := 9) rfl rfl ?_
    refine gSipush X0 hx (v := (255 : Int32)) (hb hby at_9) (pc' := 12) rfl rfl ?_
    refine gIand X0 hx (hb hby at_12) (pc' := 13) rfl ?_
    refine gI2c X0 hx (hb hby at_13) (pc' := 14) rfl ?_
    generalize hg_c0 : ((p1 &&& (255 : Int32)).toUInt32.toUInt16.toUInt32.toInt32) = c0
    have hc0 : 0 ≤ c0.toInt ∧ c0.toInt ≤ 255 := by rw [← hg_c0]; exact own_char _
    refine gStoreI X0 hx (hb hby at_14) (l' := #[.val (.int p0), .val (.int p1), .val (.int p2), .val (.int p3), .val (.int p4), .val (.int (2 : Int32)), .val (.int c0), .unset, .unset, .unset, .unset, .unset, .unset]) (pc' := 16) rfl rfl ?_
    refine gLoadIN X0 hx (hb hby at_16) (pc' := 17) rfl rfl ?_
    refine gSipush X0 hx (v := (255 : Int32)) (hb hby at_17) (pc' := 20) rfl rfl ?_
    refine gIand X0 hx (hb hby at_20) (pc' := 21) rfl ?_
    refine gI2c X0 hx (hb hby at_21) (pc' := 22) rfl ?_
    generalize hg_c1 : ((p2 &&& (255 : Int32)).toUInt32.toUInt16.toUInt32.toInt32) = c1
    have hc1 : 0 ≤ c1.toInt ∧ c1.toInt ≤ 255 := by rw [← hg_c1]; exact own_char _
    refine gStoreI X0 hx (hb hby at_22) (l' := #[.val (.int p0), .val (.int p1), .val (.int p2), .val (.int p3), .val (.int p4), .val (.int (2 : Int32)), .val (.int c0), .val (.int c1), .unset, .unset, .unset, .unset, .unset]) (pc' := 24) rfl rfl ?_
    refine gLoadIN X0 hx (hb hby at_24) (pc' := 25) rfl rfl ?_
    refine gSipush X0 hx (v := (255 : Int32)) (hb hby at_25) (pc' := 28) rfl rfl ?_
    refine gIand X0 hx (hb hby at_28) (pc' := 29) rfl ?_
    refine gI2c X0 hx (hb hby at_29) (pc' := 30) rfl ?_
    generalize hg_c2 : ((p3 &&& (255 : Int32)).toUInt32.toUInt16.toUInt32.toInt32) = c2
    have hc2 : 0 ≤ c2.toInt ∧ c2.toInt ≤ 255 := by rw [← hg_c2]; exact own_char _
    refine gStoreI X0 hx (hb hby at_30) (l' := #[.val (.int p0), .val (.int p1), .val (.int p2), .val (.int p3), .val (.int p4), .val (.int (2 : Int32)), .val (.int c0), .val (.int c1), .val (.int c2), .unset, .unset, .unset, .unset]) (pc' := 32) rfl rfl ?_
    refine gLoadI X0 hx (hb hby at_32) (pc' := 34) rfl rfl ?_
    refine gSipush X0 hx (v := (255 : Int32)) (hb hby at_34) (pc' := 37) rfl rfl ?_
    refine gIand X0 hx (hb hby at_37) (pc' := 38) rfl ?_
    refine gI2c X0 hx (hb hby at_38) (pc' := 39) rfl ?_
    generalize hg_c3 : ((p4 &&& (255 : Int32)).toUInt32.toUInt16.toUInt32.toInt32) = c3
    have hc3 : 0 ≤ c3.toInt ∧ c3.toInt ≤ 255 := by rw [← hg_c3]; exact own_char _
    refine gStoreI X0 hx (hb hby at_39) (l' := #[.val (.int p0), .val (.int p1), .val (.int p2), .val (.int p3), .val (.int p4), .val (.int (2 : Int32)), .val (.int c0), .val (.int c1), .val (.int c2), .val (.int c3), .unset, .unset, .unset]) (pc' := 41) rfl rfl ?_
    refine gLoadI X0 hx (hb hby at_41) (pc' := 43) rfl rfl ?_
    refine gIfNeT X0 hx (hb hby at_43) (pc' := 54) (by decide) (by decide) (pn := 46) rfl (fun (c43 : ¬ (2 : Int) = (0 : Int)) => ?_) (fun (c43 : (2 : Int) = (0 : Int)) => ?_)
    · refine gLoadI X0 hx (hb hby at_54) (pc' := 56) rfl rfl ?_
      refine gIconst X0 hx (v := (1 : Int32)) (hb hby at_56) (pc' := 57) rfl rfl ?_
      refine gIcmpNeT X0 hx (hb hby at_57) (pc' := 73) (by decide) (by decide) (pn := 60) rfl (fun (c57 : ¬ (2 : Int) = (1 : Int)) => ?_) (fun (c57 : (2 : Int) = (1 : Int)) => ?_)
      · refine gLoadI X0 hx (hb hby at_73) (pc' := 75) rfl rfl ?_
        refine gIconst X0 hx (v := (2 : Int32)) (hb hby at_75) (pc' := 76) rfl rfl ?_
        refine gIcmpNeT X0 hx (hb hby at_76) (pc' := 97) (by decide) (by decide) (pn := 79) rfl (fun (c76 : ¬ (2 : Int) = (2 : Int)) => ?_) (fun (c76 : (2 : Int) = (2 : Int)) => ?_)
        · exact absurd c76 (by decide)
        · refine gIconst X0 hx (v := (2 : Int32)) (hb hby at_79) (pc' := 80) rfl rfl ?_
          refine gNewP X0 hx hZ (hw _ (List.mem_of_getElem? (i := 1) rfl)) e0 (n := (2 : Int32)) (hb hby at_80) (by decide) (cap := 2) (by decide) (by decide) (by decide) (by decide) 2 (pc' := 82) rfl (fun T12 h12 b12 ck12 X12 e12 g12 E12 A12 => ?_)
          have H12 := H0.trans (CHr.ext E12 H0.1)
          have hk12 := Nat.le_trans (Nat.zero_le _) E12.1
          have s12_b := Safe.ext E12 H0.1 (Safe.new (Nat.le_of_eq g12.symm))
          have f12_0 := hCpt.ext E12
          have f12_1 := hSio.ext E12
          have sz_b12 : h0.size ≤ b12 := Nat.le_trans (Nat.le_refl _) (Nat.le_of_eq g12.symm)
          have zs12 : h0.size ≤ h12.size := Nat.le_trans (Nat.le_refl _) E12.1
          have V12 : Arv Z h12 b12 ck12 .char (2 : Int32) [(.int (0 : Int32)), (.int (0 : Int32))] (.int (0 : Int32)) := A12
          refine gDup X12 hx (hb hby at_82) (pc' := 83) rfl rfl ?_
          refine gIconst X12 hx (v := (0 : Int32)) (hb hby at_83) (pc' := 84) rfl rfl ?_
          refine gLoadI X12 hx (hb hby at_84) (pc' := 86) rfl rfl ?_
          refine gCastore X12 hx hZ e12 (x := c0) V12 (j := (0 : Int32)) (by decide) (by decide) 0 (by decide) (by simp) (hb hby at_86) (pc' := 87) rfl (fun T13 h13 X13 e13 W13 A13 => ?_)
          have S13 := s12_b
          have H13 := H12.trans (CHr.wr W13 S13 H12.1)
          have hk13 := Nat.le_trans hk12 (Nat.le_of_eq W13.size.symm)
          have s13_0 := Safe.wr W13 S13 H12.1 s12_b
          have f13_0 := f12_0.wr W13
          have f13_1 := f12_1.wr W13
          have zs13 : h0.size ≤ h13.size := by rw [W13.size]; exact zs12
          have N13 := Fr.snoc X13 (Fr.nil h0.size) sz_b12
          have V13 : Arv Z h13 b12 _ .char (2 : Int32) [(.int c0), (.int (0 : Int32))] (.int (0 : Int32)) := (by have q := A13; rw [own_nc (own_c8 hc0)] at q; exact q)
          refine gDup X13 hx (hb hby at_87) (pc' := 88) rfl rfl ?_
          refine gIconst X13 hx (v := (1 : Int32)) (hb hby at_88) (pc' := 89) rfl rfl ?_
          refine gLoadI X13 hx (hb hby at_89) (pc' := 91) rfl rfl ?_
          refine gCastore X13 hx hZ e13 (x := c1) V13 (j := (1 : Int32)) (by decide) (by decide) 1 (by decide) (by simp) (hb hby at_91) (pc' := 92) rfl (fun T14 h14 X14 e14 W14 A14 => ?_)
          have S14 := s13_0
          have H14 := H13.trans (CHr.wr W14 S14 H13.1)
          have hk14 := Nat.le_trans hk13 (Nat.le_of_eq W14.size.symm)
          have s14_0 := Safe.wr W14 S14 H13.1 s13_0
          have f14_0 := f13_0.wr W14
          have f14_1 := f13_1.wr W14
          have zs14 : h0.size ≤ h14.size := by rw [W14.size]; exact zs13
          have N14 := Fr.snoc X14 N13 sz_b12
          have V14 : Arv Z h14 b12 _ .char (2 : Int32) [(.int c0), (.int c1)] (.int (0 : Int32)) := (by have q := A14; rw [own_nc (own_c8 hc1)] at q; exact q)
          refine gStoreA X14 hx (hb hby at_92) (l' := #[.val (.int p0), .val (.int p1), .val (.int p2), .val (.int p3), .val (.int p4), .val (.int (2 : Int32)), .val (.int c0), .val (.int c1), .val (.int c2), .val (.int c3), .val (.ref b12), .unset, .unset]) (pc' := 94) rfl rfl rfl ?_
          refine gGoto X14 hx (hb hby at_94) (pc' := 151) (by decide) (by decide) ?_
          refine gNew X14 hx hZ hown (hw _ (List.mem_of_getElem? (i := 2) rfl)) (hw _ (List.mem_of_getElem? (i := 3) rfl)) (hw _ (List.mem_of_getElem? (i := 4) rfl)) e14 (hb hby at_151) (pc' := 154) rfl (by decide) (by decide) (fun T15 h15 b15 X15 e15 g15 E15 A15 D15 => ?_)
          have ne_b12_b15 : b12 ≠ b15 := Nat.ne_of_lt (Nat.lt_of_lt_of_eq V14.lt g15.symm)
          have H15 := H14.trans (CHr.ext E15 H14.1)
          have hk15 := Nat.le_trans hk14 E15.1
          have s15_0 := Safe.ext E15 H14.1 s14_0
          have s15_b := Safe.ext E15 H14.1 (Safe.new (Nat.le_of_eq g15.symm))
          have f15_0 := f14_0.ext E15
          have f15_1 := f14_1.ext E15
          have f15_2 := V14.ext E15
          have sz_b15 : h0.size ≤ b15 := Nat.le_trans zs14 (Nat.le_of_eq g15.symm)
          have zs15 : h0.size ≤ h15.size := Nat.le_trans zs14 E15.1
          have F15_value : Fld Z h15 b15 "java/lang/String" "value" "[B" .null := D15 (Or.inr (hw _ (List.mem_of_getElem? (i := 17) rfl))) (ty := (.array .byte)) (by decide)
          have F15_coder : Fld Z h15 b15 "java/lang/String" "coder" "B" (.int (0 : Int32)) := D15 (Or.inr (hw _ (List.mem_of_getElem? (i := 18) rfl))) (ty := .byte) (by decide)
          refine gDup X15 hx (hb hby at_154) (pc' := 155) rfl rfl ?_
          refine gLoadA X15 hx (hb hby at_155) (pc' := 157) rfl rfl rfl ?_
          refine gCallI X15 hx hZ (y := (⟨"java/lang/String", "<init>", "([C)V"⟩ : MethodName)) rfl hown e15 (by rw [hml]; rfl) (hw _ (List.mem_of_getElem? (i := 5) rfl)) (hw _ (List.mem_of_getElem? (i := 6) rfl)) (hw _ (List.mem_of_getElem? (i := 4) rfl)) (hw _ (List.mem_of_getElem? (i := 7) rfl)) (by decide) (argsL := [(.ref b12)]) (st := [(.ref b15)]) (c_sinit_2 l Z a0 hw b15 b12 _ h0.size c0 c1 h15 f15_0 sz_b15 zs15 ne_b12_b15 A15 F15_coder F15_value f15_2 hc0 hc1) (lenOf pd_11 rfl) (hb hby at_157) (pc' := 160) rfl rfl (by decide) (W := 1) (Nat.le_of_eq rfl) (by decide) (by decide) (by decide) ?_
          intro T16 v16 L16 X16 hQ16
          obtain ⟨t16, ct16, rfl, Nq16, Kq16, gt16, Eq16, Cq16, Vq16, Aq16⟩ := hQ16
          have N16 := Fr.app N14 Nq16
          have H16 := H15.trans (CHr.keep Kq16 (sfS s15_b sf0) H15.1)
          have hk16 := Nat.le_trans hk15 Kq16.1
          have s16_0 := Safe.keep Kq16 (sfS s15_b sf0) H15.1 s15_0
          have s16_1 := Safe.keep Kq16 (sfS s15_b sf0) H15.1 s15_b
          have f16_0 := own_cpt_keep f15_0 Kq16 (nsS (Exa.nostat A15) ns0)
          have f16_1 := own_sio_keep f15_1 Kq16 (nsS (Exa.nostat A15) ns0)
          have f16_2 := f15_2.keep Kq16 (ninS ne_b12_b15 nin0)
          have f16_3 := A15.keep Kq16
          have zs16 := Nat.le_trans zs15 Kq16.1
          refine gStoreA X16 hx (hb hby at_160) (l' := #[.val (.int p0), .val (.int p1), .val (.int p2), .val (.int p3), .val (.int p4), .val (.int (2 : Int32)), .val (.int c0), .val (.int c1), .val (.int c2), .val (.int c3), .val (.ref b12), .val (.ref b15), .unset]) (pc' := 162) rfl rfl rfl ?_
          refine gLoadI X16 hx (hb hby at_162) (pc' := 164) rfl rfl ?_
          refine gIconst X16 hx (v := (1 : Int32)) (hb hby at_164) (pc' := 165) rfl rfl ?_
          refine gIcmpLt X16 hx (hb hby at_165) (pc' := 176) (by decide) (by decide) (pn := 168) rfl (fun (c165 : (2 : Int) < (1 : Int)) => ?_) (fun (c165 : (1 : Int) ≤ (2 : Int)) => ?_)
          · exact absurd c165 (by decide)
          · refine gLoadI X16 hx (hb hby at_168) (pc' := 170) rfl rfl ?_
            refine gCallSJ X16 hx hZ (y := (⟨"com/example/anteroom/anteroom/HttpSyntaxIsFieldValuePinLaw", "ok", "(C)Z"⟩ : MethodName)) hown rfl (by rw [hml]; rfl) (hw _ (List.mem_of_getElem? (i := 48) rfl)) (hw _ (List.mem_of_getElem? (i := 49) rfl)) (hw _ (List.mem_of_getElem? (i := 50) rfl)) (hw _ (List.mem_of_getElem? (i := 51) rfl)) (by decide) (argsL := [(.int c0)]) (st := []) (c_ok l Z a0 hw c0 _) (lenOf pd_4 rfl) (hb hby at_170) (pc' := 173) rfl rfl rfl rfl (by decide) (W := 0) (Nat.le_of_eq rfl) (by decide) (by decide) (by decide) ?_
            intro T17 X17 e17
            refine gIfEq X17 hx (hb hby at_173) (pc' := 222) (by decide) (by decide) (pn := 176) rfl (fun (c173 : (b2i (decide (c0.toInt = 9 ∨ 32 ≤ c0.toInt ∧ c0.toInt ≠ 127))) = (0 : Int32)) => ?_) (fun (c173 : ¬ (b2i (decide (c0.toInt = 9 ∨ 32 ≤ c0.toInt ∧ c0.toInt ≠ 127))) = (0 : Int32)) => ?_)
            · refine gIconst X17 hx (v := (0 : Int32)) (hb hby at_222) (pc' := 223) rfl rfl ?_
              refine gStoreI X17 hx (hb hby at_223) (l' := #[.val (.int p0), .val (.int p1), .val (.int p2), .val (.int p3), .val (.int p4), .val (.int (2 : Int32)), .val (.int c0), .val (.int c1), .val (.int c2), .val (.int c3), .val (.ref b12), .val (.ref b15), .val (.int (0 : Int32))]) (pc' := 225) rfl rfl ?_
              refine gLoadA X17 hx (hb hby at_225) (pc' := 227) rfl rfl rfl ?_
              refine gCallSJ X17 hx hZ (y := (⟨"com/example/anteroom/anteroom/HttpSyntax", "isFieldValue", "(Ljava/lang/String;)Z"⟩ : MethodName)) hown e17 (by rw [hml]; rfl) (hw _ (List.mem_of_getElem? (i := 23) rfl)) (hw _ (List.mem_of_getElem? (i := 24) rfl)) (hw _ (List.mem_of_getElem? (i := 25) rfl)) (hw _ (List.mem_of_getElem? (i := 26) rfl)) (by decide) (argsL := [(.ref b15)]) (st := []) (c_fv_2 l Z a0 hw b15 t16 ct16 c0 c1 _ f16_1 f16_0 Eq16 Cq16 Vq16 Aq16 hc0 hc1) (lenOf pd_8 rfl) (hb hby at_227) (pc' := 230) rfl rfl rfl rfl (by decide) (W := 0) (Nat.le_of_eq rfl) (by decide) (by decide) (by decide) ?_
              intro T18 X18 e18
              refine gLoadI X18 hx (hb hby at_230) (pc' := 232) rfl rfl ?_
              refine gIcmpNe X18 hx (hb hby at_232) (pc' := 239) (by decide) (by decide) (pn := 235) rfl (fun (c232 : ¬ (b2i (decide ((c0.toInt = 9 ∨ 32 ≤ c0.toInt ∧ c0.toInt ≠ 127) ∧ (c1.toInt = 9 ∨ 32 ≤ c1.toInt ∧ c1.toInt ≠ 127)))) = (0 : Int32)) => ?_) (fun (c232 : (b2i (decide ((c0.toInt = 9 ∨ 32 ≤ c0.toInt ∧ c0.toInt ≠ 127) ∧ (c1.toInt = 9 ∨ 32 ≤ c1.toInt ∧ c1.toInt ≠ 127)))) = (0 : Int32)) => ?_)
              · exact absurd (b2_f (fun q => of_decide_eq_false (b2_0.mp c173) q.1)) c232
              · refine gIconst X18 hx (v := (1 : Int32)) (hb hby at_235) (pc' := 236) rfl rfl ?_
                refine gGoto X18 hx (hb hby at_236) (pc' := 240) (by decide) (by decide) ?_
                exact gRetHN X18 hx hlk hret (by simp) (hb hby at_240) (w := (1 : Int32)) rfl e18 hS hk16 hZ hEL H16 (by decide) (by decide) (⟨rfl, N16⟩)
            · refine gLoadI X17 hx (hb hby at_176) (pc' := 178) rfl rfl ?_
              refine gIconst X17 hx (v := (2 : Int32)) (hb hby at_178) (pc' := 179) rfl rfl ?_
              refine gIcmpLt X17 hx (hb hby at_179) (pc' := 190) (by decide) (by decide) (pn := 182) rfl (fun (c179 : (2 : Int) < (2 : Int)) => ?_) (fun (c179 : (2 : Int) ≤ (2 : Int)) => ?_)
              · exact absurd c179 (by decide)
              · refine gLoadI X17 hx (hb hby at_182) (pc' := 184) rfl rfl ?_
                refine gCallSJ X17 hx hZ (y := (⟨"com/example/anteroom/anteroom/HttpSyntaxIsFieldValuePinLaw", "ok", "(C)Z"⟩ : MethodName)) hown e17 (by rw [hml]; rfl) (hw _ (List.mem_of_getElem? (i := 48) rfl)) (hw _ (List.mem_of_getElem? (i := 49) rfl)) (hw _ (List.mem_of_getElem? (i := 50) rfl)) (hw _ (List.mem_of_getElem? (i := 51) rfl)) (by decide) (argsL := [(.int c1)]) (st := []) (c_ok l Z a0 hw c1 _) (lenOf pd_4 rfl) (hb hby at_184) (pc' := 187) rfl rfl rfl rfl (by decide) (W := 0) (Nat.le_of_eq rfl) (by decide) (by decide) (by decide) ?_
                intro T19 X19 e19
                refine gIfEq X19 hx (hb hby at_187) (pc' := 222) (by decide) (by decide) (pn := 190) rfl (fun (c187 : (b2i (decide (c1.toInt = 9 ∨ 32 ≤ c1.toInt ∧ c1.toInt ≠ 127))) = (0 : Int32)) => ?_) (fun (c187 : ¬ (b2i (decide (c1.toInt = 9 ∨ 32 ≤ c1.toInt ∧ c1.toInt ≠ 127))) = (0 : Int32)) => ?_)
                · refine gIconst X19 hx (v := (0 : Int32)) (hb hby at_222) (pc' := 223) rfl rfl ?_
                  refine gStoreI X19 hx (hb hby at_223) (l' := #[.val (.int p0), .val (.int p1), .val (.int p2), .val (.int p3), .val (.int p4), .val (.int (2 : Int32)), .val (.int c0), .val (.int c1), .val (.int c2), .val (.int c3), .val (.ref b12), .val (.ref b15), .val (.int (0 : Int32))]) (pc' := 225) rfl rfl ?_
                  refine gLoadA X19 hx (hb hby at_225) (pc' := 227) rfl rfl rfl ?_
                  refine gCallSJ X19 hx hZ (y := (⟨"com/example/anteroom/anteroom/HttpSyntax", "isFieldValue", "(Ljava/lang/String;)Z"⟩ : MethodName)) hown e19 (by rw [hml]; rfl) (hw _ (List.mem_of_getElem? (i := 23) rfl)) (hw _ (List.mem_of_getElem? (i := 24) rfl)) (hw _ (List.mem_of_getElem? (i := 25) rfl)) (hw _ (List.mem_of_getElem? (i := 26) rfl)) (by decide) (argsL := [(.ref b15)]) (st := []) (c_fv_2 l Z a0 hw b15 t16 ct16 c0 c1 _ f16_1 f16_0 Eq16 Cq16 Vq16 Aq16 hc0 hc1) (lenOf pd_8 rfl) (hb hby at_227) (pc' := 230) rfl rfl rfl rfl (by decide) (W := 0) (Nat.le_of_eq rfl) (by decide) (by decide) (by decide) ?_
                  intro T20 X20 e20
                  refine gLoadI X20 hx (hb hby at_230) (pc' := 232) rfl rfl ?_
                  refine gIcmpNe X20 hx (hb hby at_232) (pc' := 239) (by decide) (by decide) (pn := 235) rfl (fun (c232 : ¬ (b2i (decide ((c0.toInt = 9 ∨ 32 ≤ c0.toInt ∧ c0.toInt ≠ 127) ∧ (c1.toInt = 9 ∨ 32 ≤ c1.toInt ∧ c1.toInt ≠ 127)))) = (0 : Int32)) => ?_) (fun (c232 : (b2i (decide ((c0.toInt = 9 ∨ 32 ≤ c0.toInt ∧ c0.toInt ≠ 127) ∧ (c1.toInt = 9 ∨ 32 ≤ c1.toInt ∧ c1.toInt ≠ 127)))) = (0 : Int32)) => ?_)
                  · exact absurd (b2_f (fun q => of_decide_eq_false (b2_0.mp c187) q.2)) c232
                  · refine gIconst X20 hx (v := (1 : Int32)) (hb hby at_235) (pc' := 236) rfl rfl ?_
                    refine gGoto X20 hx (hb hby at_236) (pc' := 240) (by decide) (by decide) ?_
                    exact gRetHN X20 hx hlk hret (by simp) (hb hby at_240) (w := (1 : Int32)) rfl e20 hS hk16 hZ hEL H16 (by decide) (by decide) (⟨rfl, N16⟩)
                · refine gLoadI X19 hx (hb hby at_190) (pc' := 192) rfl rfl ?_
                  refine gIconst X19 hx (v := (3 : Int32)) (hb hby at_192) (pc' := 193) rfl rfl ?_
                  refine gIcmpLt X19 hx (hb hby at_193) (pc' := 204) (by decide) (by decide) (pn := 196) rfl (fun (c193 : (2 : Int) < (3 : Int)) => ?_) (fun (c193 : (3 : Int) ≤ (2 : Int)) => ?_)
                  · refine gLoadI X19 hx (hb hby at_204) (pc' := 206) rfl rfl ?_
                    refine gIconst X19 hx (v := (4 : Int32)) (hb hby at_206) (pc' := 207) rfl rfl ?_
                    refine gIcmpLt X19 hx (hb hby at_207) (pc' := 218) (by decide) (by decide) (pn := 210) rfl (fun (c207 : (2 : Int) < (4 : Int)) => ?_) (fun (c207 : (4 : Int) ≤ (2 : Int)) => ?_)
                    · refine gIconst X19 hx (v := (1 : Int32)) (hb hby at_218) (pc' := 219) rfl rfl ?_
                      refine gGoto X19 hx (hb hby at_219) (pc' := 223) (by decide) (by decide) ?_
                      refine gStoreI X19 hx (hb hby at_223) (l' := #[.val (.int p0), .val (.int p1), .val (.int p2), .val (.int p3), .val (.int p4), .val (.int (2 : Int32)), .val (.int c0), .val (.int c1), .val (.int c2), .val (.int c3), .val (.ref b12), .val (.ref b15), .val (.int (1 : Int32))]) (pc' := 225) rfl rfl ?_
                      refine gLoadA X19 hx (hb hby at_225) (pc' := 227) rfl rfl rfl ?_
                      refine gCallSJ X19 hx hZ (y := (⟨"com/example/anteroom/anteroom/HttpSyntax", "isFieldValue", "(Ljava/lang/String;)Z"⟩ : MethodName)) hown e19 (by rw [hml]; rfl) (hw _ (List.mem_of_getElem? (i := 23) rfl)) (hw _ (List.mem_of_getElem? (i := 24) rfl)) (hw _ (List.mem_of_getElem? (i := 25) rfl)) (hw _ (List.mem_of_getElem? (i := 26) rfl)) (by decide) (argsL := [(.ref b15)]) (st := []) (c_fv_2 l Z a0 hw b15 t16 ct16 c0 c1 _ f16_1 f16_0 Eq16 Cq16 Vq16 Aq16 hc0 hc1) (lenOf pd_8 rfl) (hb hby at_227) (pc' := 230) rfl rfl rfl rfl (by decide) (W := 0) (Nat.le_of_eq rfl) (by decide) (by decide) (by decide) ?_
                      intro T21 X21 e21
                      refine gLoadI X21 hx (hb hby at_230) (pc' := 232) rfl rfl ?_
                      refine gIcmpNe X21 hx (hb hby at_232) (pc' := 239) (by decide) (by decide) (pn := 235) rfl (fun (c232 : ¬ (b2i (decide ((c0.toInt = 9 ∨ 32 ≤ c0.toInt ∧ c0.toInt ≠ 127) ∧ (c1.toInt = 9 ∨ 32 ≤ c1.toInt ∧ c1.toInt ≠ 127)))) = (1 : Int32)) => ?_) (fun (c232 : (b2i (decide ((c0.toInt = 9 ∨ 32 ≤ c0.toInt ∧ c0.toInt ≠ 127) ∧ (c1.toInt = 9 ∨ 32 ≤ c1.toInt ∧ c1.toInt ≠ 127)))) = (1 : Int32)) => ?_)
                      · exact absurd (b2_t ⟨of_decide_eq_true (b2_n0.mp c173), of_decide_eq_true (b2_n0.mp c187)⟩) c232
                      · refine gIconst X21 hx (v := (1 : Int32)) (hb hby at_235) (pc' := 236) rfl rfl ?_
                        refine gGoto X21 hx (hb hby at_236) (pc' := 240) (by decide) (by decide) ?_
                        exact gRetHN X21 hx hlk hret (by simp) (hb hby at_240) (w := (1 : Int32)) rfl e21 hS hk16 hZ hEL H16 (by decide) (by decide) (⟨rfl, N16⟩)
                    · exact absurd c207 (by decide)
                  · exact absurd c193 (by decide)
      · exact absurd c57 (by decide)
    · exact absurd c43 (by decide)
  · refine gStoreI X0 hx (hb hby at_6) (l' := #[.val (.int p0), .val (.int p1), .val (.int p2), .val (.int p3), .val (.int p4), .val (.int (3 : Int32)), .unset, .unset, .unset, .unset, .unset, .unset, .unset]) (pc' := 8) rfl rfl ?_
    refine gLoadIN X0 hx (hb hby at_8) (pc' := 9) rfl rfl ?_
    refine gSipush X0 hx (v := (255 : Int32)) (hb hby at_9) (pc' := 12) rfl rfl ?_
    refine gIand X0 hx (hb hby at_12) (pc' := 13) rfl ?_
    refine gI2c X0 hx (hb hby at_13) (pc' := 14) rfl ?_
    generalize hg_c0 : ((p1 &&& (255 : Int32)).toUInt32.toUInt16.toUInt32.toInt32) = c0
    have hc0 : 0 ≤ c0.toInt ∧ c0.toInt ≤ 255 := by rw [← hg_c0]; exact own_char _
    refine gStoreI X0 hx (hb hby at_14) (l' := #[.val (.int p0), .val (.int p1), .val (.int p2), .val (.int p3), .val (.int p4), .val (.int (3 : Int32)), .val (.int c0), .unset, .unset, .unset, .unset, .unset, .unset]) (pc' := 16) rfl rfl ?_
    refine gLoadIN X0 hx (hb hby at_16) (pc' := 17) rfl rfl ?_
    refine gSipush X0 hx (v := (255 : Int32)) (hb hby at_17) (pc' := 20) rfl rfl ?_
    refine gIand X0 hx (hb hby at_20) (pc' := 21) rfl ?_
    refine gI2c X0 hx (hb hby at_21) (pc' := 22) rfl ?_
    generalize hg_c1 : ((p2 &&& (255 : Int32)).toUInt32.toUInt16.toUInt32.toInt32) = c1
    have hc1 : 0 ≤ c1.toInt ∧ c1.toInt ≤ 255 := by rw [← hg_c1]; exact own_char _
    refine gStoreI X0 hx (hb hby at_22) (l' := #[.val (.int p0), .val (.int p1), .val (.int p2), .val (.int p3), .val (.int p4), .val (.int (3 : Int32)), .val (.int c0), .val (.int c1), .unset, .unset, .unset, .unset, .unset]) (pc' := 24) rfl rfl ?_
    refine gLoadIN X0 hx (hb hby at_24) (pc' := 25) rfl rfl ?_
    refine gSipush X0 hx (v := (255 : Int32)) (hb hby at_25) (pc' := 28) rfl rfl ?_
    refine gIand X0 hx (hb hby at_28) (pc' := 29) rfl ?_
    refine gI2c X0 hx (hb hby at_29) (pc' := 30) rfl ?_
    generalize hg_c2 : ((p3 &&& (255 : Int32)).toUInt32.toUInt16.toUInt32.toInt32) = c2
    have hc2 : 0 ≤ c2.toInt ∧ c2.toInt ≤ 255 := by rw [← hg_c2]; exact own_char _
    refine gStoreI X0 hx (hb hby at_30) (l' := #[.val (.int p0), .val (.int p1), .val (.int p2), .val (.int p3), .val (.int p4), .val (.int (3 : Int32)), .val (.int c0), .val (.int c1), .val (.int c2), .unset, .unset, .unset, .unset]) (pc' := 32) rfl rfl ?_
    refine gLoadI X0 hx (hb hby at_32) (pc' := 34) rfl rfl ?_
    refine gSipush X0 hx (v := (255 : Int32)) (hb hby at_34) (pc' := 37) rfl rfl ?_
    refine gIand X0 hx (hb hby at_37) (pc' := 38) rfl ?_
    refine gI2c X0 hx (hb hby at_38) (pc' := 39) rfl ?_
    generalize hg_c3 : ((p4 &&& (255 : Int32)).toUInt32.toUInt16.toUInt32.toInt32) = c3
    have hc3 : 0 ≤ c3.toInt ∧ c3.toInt ≤ 255 := by rw [← hg_c3]; exact own_char _
    refine gStoreI X0 hx (hb hby at_39) (l' := #[.val (.int p0), .val (.int p1), .val (.int p2), .val (.int p3), .val (.int p4), .val (.int (3 : Int32)), .val (.int c0), .val (.int c1), .val (.int c2), .val (.int c3), .unset, .unset, .unset]) (pc' := 41) rfl rfl ?_
    refine gLoadI X0 hx (hb hby at_41) (pc' := 43) rfl rfl ?_
    refine gIfNeT X0 hx (hb hby at_43) (pc' := 54) (by decide) (by decide) (pn := 46) rfl (fun (c43 : ¬ (3 : Int) = (0 : Int)) => ?_) (fun (c43 : (3 : Int) = (0 : Int)) => ?_)
    · refine gLoadI X0 hx (hb hby at_54) (pc' := 56) rfl rfl ?_
      refine gIconst X0 hx (v := (1 : Int32)) (hb hby at_56) (pc' := 57) rfl rfl ?_
      refine gIcmpNeT X0 hx (hb hby at_57) (pc' := 73) (by decide) (by decide) (pn := 60) rfl (fun (c57 : ¬ (3 : Int) = (1 : Int)) => ?_) (fun (c57 : (3 : Int) = (1 : Int)) => ?_)
      · refine gLoadI X0 hx (hb hby at_73) (pc' := 75) rfl rfl ?_
        refine gIconst X0 hx (v := (2 : Int32)) (hb hby at_75) (pc' := 76) rfl rfl ?_
        refine gIcmpNeT X0 hx (hb hby at_76) (pc' := 97) (by decide) (by decide) (pn := 79) rfl (fun (c76 : ¬ (3 : Int) = (2 : Int)) => ?_) (fun (c76 : (3 : Int) = (2 : Int)) => ?_)
        · refine gLoadI X0 hx (hb hby at_97) (pc' := 99) rfl rfl ?_
          refine gIconst X0 hx (v := (3 : Int32)) (hb hby at_99) (pc' := 100) rfl rfl ?_
          refine gIcmpNeT X0 hx (hb hby at_100) (pc' := 126) (by decide) (by decide) (pn := 103) rfl (fun (c100 : ¬ (3 : Int) = (3 : Int)) => ?_) (fun (c100 : (3 : Int) = (3 : Int)) => ?_)
          · exact absurd c100 (by decide)
          · refine gIconst X0 hx (v := (3 : Int32)) (hb hby at_103) (pc' := 104) rfl rfl ?_
            refine gNewP X0 hx hZ (hw _ (List.mem_of_getElem? (i := 1) rfl)) e0 (n := (3 : Int32)) (hb hby at_104) (by decide) (cap := 3) (by decide) (by decide) (by decide) (by decide) 3 (pc' := 106) rfl (fun T22 h22 b22 ck22 X22 e22 g22 E22 A22 => ?_)
            have H22 := H0.trans (CHr.ext E22 H0.1)
            have hk22 := Nat.le_trans (Nat.zero_le _) E22.1
            have s22_b := Safe.ext E22 H0.1 (Safe.new (Nat.le_of_eq g22.symm))
            have f22_0 := hCpt.ext E22
            have f22_1 := hSio.ext E22
            have sz_b22 : h0.size ≤ b22 := Nat.le_trans (Nat.le_refl _) (Nat.le_of_eq g22.symm)
            have zs22 : h0.size ≤ h22.size := Nat.le_trans (Nat.le_refl _) E22.1
            have V22 : Arv Z h22 b22 ck22 .char (3 : Int32) [(.int (0 : Int32)), (.int (0 : Int32)), (.int (0 : Int32))] (.int (0 : Int32)) := A22
            refine gDup X22 hx (hb hby at_106) (pc' := 107) rfl rfl ?_
            refine gIconst X22 hx (v := (0 : Int32)) (hb hby at_107) (pc' := 108) rfl rfl ?_
            refine gLoadI X22 hx (hb hby at_108) (pc' := 110) rfl rfl ?_
            refine gCastore X22 hx hZ e22 (x := c0) V22 (j := (0 : Int32)) (by decide) (by decide) 0 (by decide) (by simp) (hb hby at_110) (pc' := 111) rfl (fun T23 h23 X23 e23 W23 A23 => ?_)
            have S23 := s22_b
            have H23 := H22.trans (CHr.wr W23 S23 H22.1)
            have hk23 := Nat.le_trans hk22 (Nat.le_of_eq W23.size.symm)
            have s23_0 := Safe.wr W23 S23 H22.1 s22_b
            have f23_0 := f22_0.wr W23
            have f23_1 := f22_1.wr W23
            have zs23 : h0.size ≤ h23.size := by rw [W23.size]; exact zs22
            have N23 := Fr.snoc X23 (Fr.nil h0.size) sz_b22
            have V23 : Arv Z h23 b22 _ .char (3 : Int32) [(.int c0), (.int (0 : Int32)), (.int (0 : Int32))] (.int (0 : Int32)) := (by have q := A23; rw [own_nc (own_c8 hc0)] at q; exact q)
            refine gDup X23 hx (hb hby at_111) (pc' := 112) rfl rfl ?_
            refine gIconst X23 hx (v := (1 : Int32)) (hb hby at_112) (pc' := 113) rfl rfl ?_
            refine gLoadI X23 hx (hb hby at_113) (pc' := 115) rfl rfl ?_
            refine gCastore X23 hx hZ e23 (x := c1) V23 (j := (1 : Int32)) (by decide) (by decide) 1 (by decide) (by simp) (hb hby at_115) (pc' := 116) rfl (fun T24 h24 X24 e24 W24 A24 => ?_)
            have S24 := s23_0
            have H24 := H23.trans (CHr.wr W24 S24 H23.1)
            have hk24 := Nat.le_trans hk23 (Nat.le_of_eq W24.size.symm)
            have s24_0 := Safe.wr W24 S24 H23.1 s23_0
            have f24_0 := f23_0.wr W24
            have f24_1 := f23_1.wr W24
            have zs24 : h0.size ≤ h24.size := by rw [W24.size]; exact zs23
            have N24 := Fr.snoc X24 N23 sz_b22
            have V24 : Arv Z h24 b22 _ .char (3 : Int32) [(.int c0), (.int c1), (.int (0 : Int32))] (.int (0 : Int32)) := (by have q := A24; rw [own_nc (own_c8 hc1)] at q; exact q)
            refine gDup X24 hx (hb hby at_116) (pc' := 117) rfl rfl ?_
            refine gIconst X24 hx (v := (2 : Int32)) (hb hby at_117) (pc' := 118) rfl rfl ?_
            refine gLoadI X24 hx (hb hby at_118) (pc' := 120) rfl rfl ?_
            refine gCastore X24 hx hZ e24 (x := c2) V24 (j := (2 : Int32)) (by decide) (by decide) 2 (by decide) (by simp) (hb hby at_120) (pc' := 121) rfl (fun T25 h25 X25 e25 W25 A25 => ?_)
            have S25 := s24_0
            have H25 := H24.trans (CHr.wr W25 S25 H24.1)
            have hk25 := Nat.le_trans hk24 (Nat.le_of_eq W25.size.symm)
            have s25_0 := Safe.wr W25 S25 H24.1 s24_0
            have f25_0 := f24_0.wr W25
            have f25_1 := f24_1.wr W25
            have zs25 : h0.size ≤ h25.size := by rw [W25.size]; exact zs24
            have N25 := Fr.snoc X25 N24 sz_b22
            have V25 : Arv Z h25 b22 _ .char (3 : Int32) [(.int c0), (.int c1), (.int c2)] (.int (0 : Int32)) := (by have q := A25; rw [own_nc (own_c8 hc2)] at q; exact q)
            refine gStoreA X25 hx (hb hby at_121) (l' := #[.val (.int p0), .val (.int p1), .val (.int p2), .val (.int p3), .val (.int p4), .val (.int (3 : Int32)), .val (.int c0), .val (.int c1), .val (.int c2), .val (.int c3), .val (.ref b22), .unset, .unset]) (pc' := 123) rfl rfl rfl ?_
            refine gGoto X25 hx (hb hby at_123) (pc' := 151) (by decide) (by decide) ?_
            refine gNew X25 hx hZ hown (hw _ (List.mem_of_getElem? (i := 2) rfl)) (hw _ (List.mem_of_getElem? (i := 3) rfl)) (hw _ (List.mem_of_getElem? (i := 4) rfl)) e25 (hb hby at_151) (pc' := 154) rfl (by decide) (by decide) (fun T26 h26 b26 X26 e26 g26 E26 A26 D26 => ?_)
            have ne_b22_b26 : b22 ≠ b26 := Nat.ne_of_lt (Nat.lt_of_lt_of_eq V25.lt g26.symm)
            have H26 := H25.trans (CHr.ext E26 H25.1)
            have hk26 := Nat.le_trans hk25 E26.1
            have s26_0 := Safe.ext E26 H25.1 s25_0
            have s26_b := Safe.ext E26 H25.1 (Safe.new (Nat.le_of_eq g26.symm))
            have f26_0 := f25_0.ext E26
            have f26_1 := f25_1.ext E26
            have f26_2 := V25.ext E26
            have sz_b26 : h0.size ≤ b26 := Nat.le_trans zs25 (Nat.le_of_eq g26.symm)
            have zs26 : h0.size ≤ h26.size := Nat.le_trans zs25 E26.1
            have F26_value : Fld Z h26 b26 "java/lang/String" "value" "[B" .null := D26 (Or.inr (hw _ (List.mem_of_getElem? (i := 17) rfl))) (ty := (.array .byte)) (by decide)
            have F26_coder : Fld Z h26 b26 "java/lang/String" "coder" "B" (.int (0 : Int32)) := D26 (Or.inr (hw _ (List.mem_of_getElem? (i := 18) rfl))) (ty := .byte) (by decide)
            refine gDup X26 hx (hb hby at_154) (pc' := 155) rfl rfl ?_
            refine gLoadA X26 hx (hb hby at_155) (pc' := 157) rfl rfl rfl ?_
            refine gCallI X26 hx hZ (y := (⟨"java/lang/String", "<init>", "([C)V"⟩ : MethodName)) rfl hown e26 (by rw [hml]; rfl) (hw _ (List.mem_of_getElem? (i := 5) rfl)) (hw _ (List.mem_of_getElem? (i := 6) rfl)) (hw _ (List.mem_of_getElem? (i := 4) rfl)) (hw _ (List.mem_of_getElem? (i := 7) rfl)) (by decide) (argsL := [(.ref b22)]) (st := [(.ref b26)]) (c_sinit_3 l Z a0 hw b26 b22 _ h0.size c0 c1 c2 h26 f26_0 sz_b26 zs26 ne_b22_b26 A26 F26_coder F26_value f26_2 hc0 hc1 hc2) (lenOf pd_11 rfl) (hb hby at_157) (pc' := 160) rfl rfl (by decide) (W := 1) (Nat.le_of_eq rfl) (by decide) (by decide) (by decide) ?_
            intro T27 v27 L27 X27 hQ27
            obtain ⟨t27, ct27, rfl, Nq27, Kq27, gt27, Eq27, Cq27, Vq27, Aq27⟩ := hQ27
            have N27 := Fr.app N25 Nq27
            have H27 := H26.trans (CHr.keep Kq27 (sfS s26_b sf0) H26.1)
            have hk27 := Nat.le_trans hk26 Kq27.1
            have s27_0 := Safe.keep Kq27 (sfS s26_b sf0) H26.1 s26_0
            have s27_1 := Safe.keep Kq27 (sfS s26_b sf0) H26.1 s26_b
            have f27_0 := own_cpt_keep f26_0 Kq27 (nsS (Exa.nostat A26) ns0)
            have f27_1 := own_sio_keep f26_1 Kq27 (nsS (Exa.nostat A26) ns0)
            have f27_2 := f26_2.keep Kq27 (ninS ne_b22_b26 nin0)
            have f27_3 := A26.keep Kq27
            have zs27 := Nat.le_trans zs26 Kq27.1
            refine gStoreA X27 hx (hb hby at_160) (l' := #[.val (.int p0), .val (.int p1), .val (.int p2), .val (.int p3), .val (.int p4), .val (.int (3 : Int32)), .val (.int c0), .val (.int c1), .val (.int c2), .val (.int c3), .val (.ref b22), .val (.ref b26), .unset]) (pc' := 162) rfl rfl rfl ?_
            refine gLoadI X27 hx (hb hby at_162) (pc' := 164) rfl rfl ?_
            refine gIconst X27 hx (v := (1 : Int32)) (hb hby at_164) (pc' := 165) rfl rfl ?_
            refine gIcmpLt X27 hx (hb hby at_165) (pc' := 176) (by decide) (by decide) (pn := 168) rfl (fun (c165 : (3 : Int) < (1 : Int)) => ?_) (fun (c165 : (1 : Int) ≤ (3 : Int)) => ?_)
            · exact absurd c165 (by decide)
            · refine gLoadI X27 hx (hb hby at_168) (pc' := 170) rfl rfl ?_
              refine gCallSJ X27 hx hZ (y := (⟨"com/example/anteroom/anteroom/HttpSyntaxIsFieldValuePinLaw", "ok", "(C)Z"⟩ : MethodName)) hown rfl (by rw [hml]; rfl) (hw _ (List.mem_of_getElem? (i := 48) rfl)) (hw _ (List.mem_of_getElem? (i := 49) rfl)) (hw _ (List.mem_of_getElem? (i := 50) rfl)) (hw _ (List.mem_of_getElem? (i := 51) rfl)) (by decide) (argsL := [(.int c0)]) (st := []) (c_ok l Z a0 hw c0 _) (lenOf pd_4 rfl) (hb hby at_170) (pc' := 173) rfl rfl rfl rfl (by decide) (W := 0) (Nat.le_of_eq rfl) (by decide) (by decide) (by decide) ?_
              intro T28 X28 e28
              refine gIfEq X28 hx (hb hby at_173) (pc' := 222) (by decide) (by decide) (pn := 176) rfl (fun (c173 : (b2i (decide (c0.toInt = 9 ∨ 32 ≤ c0.toInt ∧ c0.toInt ≠ 127))) = (0 : Int32)) => ?_) (fun (c173 : ¬ (b2i (decide (c0.toInt = 9 ∨ 32 ≤ c0.toInt ∧ c0.toInt ≠ 127))) = (0 : Int32)) => ?_)
              · refine gIconst X28 hx (v := (0 : Int32)) (hb hby at_222) (pc' := 223) rfl rfl ?_
                refine gStoreI X28 hx (hb hby at_223) (l' := #[.val (.int p0), .val (.int p1), .val (.int p2), .val (.int p3), .val (.int p4), .val (.int (3 : Int32)), .val (.int c0), .val (.int c1), .val (.int c2), .val (.int c3), .val (.ref b22), .val (.ref b26), .val (.int (0 : Int32))]) (pc' := 225) rfl rfl ?_
                refine gLoadA X28 hx (hb hby at_225) (pc' := 227) rfl rfl rfl ?_
                refine gCallSJ X28 hx hZ (y := (⟨"com/example/anteroom/anteroom/HttpSyntax", "isFieldValue", "(Ljava/lang/String;)Z"⟩ : MethodName)) hown e28 (by rw [hml]; rfl) (hw _ (List.mem_of_getElem? (i := 23) rfl)) (hw _ (List.mem_of_getElem? (i := 24) rfl)) (hw _ (List.mem_of_getElem? (i := 25) rfl)) (hw _ (List.mem_of_getElem? (i := 26) rfl)) (by decide) (argsL := [(.ref b26)]) (st := []) (c_fv_3 l Z a0 hw b26 t27 ct27 c0 c1 c2 _ f27_1 f27_0 Eq27 Cq27 Vq27 Aq27 hc0 hc1 hc2) (lenOf pd_8 rfl) (hb hby at_227) (pc' := 230) rfl rfl rfl rfl (by decide) (W := 0) (Nat.le_of_eq rfl) (by decide) (by decide) (by decide) ?_
                intro T29 X29 e29
                refine gLoadI X29 hx (hb hby at_230) (pc' := 232) rfl rfl ?_
                refine gIcmpNe X29 hx (hb hby at_232) (pc' := 239) (by decide) (by decide) (pn := 235) rfl (fun (c232 : ¬ (b2i (decide ((c0.toInt = 9 ∨ 32 ≤ c0.toInt ∧ c0.toInt ≠ 127) ∧ (c1.toInt = 9 ∨ 32 ≤ c1.toInt ∧ c1.toInt ≠ 127) ∧ (c2.toInt = 9 ∨ 32 ≤ c2.toInt ∧ c2.toInt ≠ 127)))) = (0 : Int32)) => ?_) (fun (c232 : (b2i (decide ((c0.toInt = 9 ∨ 32 ≤ c0.toInt ∧ c0.toInt ≠ 127) ∧ (c1.toInt = 9 ∨ 32 ≤ c1.toInt ∧ c1.toInt ≠ 127) ∧ (c2.toInt = 9 ∨ 32 ≤ c2.toInt ∧ c2.toInt ≠ 127)))) = (0 : Int32)) => ?_)
                · exact absurd (b2_f (fun q => of_decide_eq_false (b2_0.mp c173) q.1)) c232
                · refine gIconst X29 hx (v := (1 : Int32)) (hb hby at_235) (pc' := 236) rfl rfl ?_
                  refine gGoto X29 hx (hb hby at_236) (pc' := 240) (by decide) (by decide) ?_
                  exact gRetHN X29 hx hlk hret (by simp) (hb hby at_240) (w := (1 : Int32)) rfl e29 hS hk27 hZ hEL H27 (by decide) (by decide) (⟨rfl, N27⟩)
              · refine gLoadI X28 hx (hb hby at_176) (pc' := 178) rfl rfl ?_
                refine gIconst X28 hx (v := (2 : Int32)) (hb hby at_178) (pc' := 179) rfl rfl ?_
                refine gIcmpLt X28 hx (hb hby at_179) (pc' := 190) (by decide) (by decide) (pn := 182) rfl (fun (c179 : (3 : Int) < (2 : Int)) => ?_) (fun (c179 : (2 : Int) ≤ (3 : Int)) => ?_)
                · exact absurd c179 (by decide)
                · refine gLoadI X28 hx (hb hby at_182) (pc' := 184) rfl rfl ?_
                  refine gCallSJ X28 hx hZ (y := (⟨"com/example/anteroom/anteroom/HttpSyntaxIsFieldValuePinLaw", "ok", "(C)Z"⟩ : MethodName)) hown e28 (by rw [hml]; rfl) (hw _ (List.mem_of_getElem? (i := 48) rfl)) (hw _ (List.mem_of_getElem? (i := 49) rfl)) (hw _ (List.mem_of_getElem? (i := 50) rfl)) (hw _ (List.mem_of_getElem? (i := 51) rfl)) (by decide) (argsL := [(.int c1)]) (st := []) (c_ok l Z a0 hw c1 _) (lenOf pd_4 rfl) (hb hby at_184) (pc' := 187) rfl rfl rfl rfl (by decide) (W := 0) (Nat.le_of_eq rfl) (by decide) (by decide) (by decide) ?_
                  intro T30 X30 e30
                  refine gIfEq X30 hx (hb hby at_187) (pc' := 222) (by decide) (by decide) (pn := 190) rfl (fun (c187 : (b2i (decide (c1.toInt = 9 ∨ 32 ≤ c1.toInt ∧ c1.toInt ≠ 127))) = (0 : Int32)) => ?_) (fun (c187 : ¬ (b2i (decide (c1.toInt = 9 ∨ 32 ≤ c1.toInt ∧ c1.toInt ≠ 127))) = (0 : Int32)) => ?_)
                  · refine gIconst X30 hx (v := (0 : Int32)) (hb hby at_222) (pc' := 223) rfl rfl ?_
                    refine gStoreI X30 hx (hb hby at_223) (l' := #[.val (.int p0), .val (.int p1), .val (.int p2), .val (.int p3), .val (.int p4), .val (.int (3 : Int32)), .val (.int c0), .val (.int c1), .val (.int c2), .val (.int c3), .val (.ref b22), .val (.ref b26), .val (.int (0 : Int32))]) (pc' := 225) rfl rfl ?_
                    refine gLoadA X30 hx (hb hby at_225) (pc' := 227) rfl rfl rfl ?_
                    refine gCallSJ X30 hx hZ (y := (⟨"com/example/anteroom/anteroom/HttpSyntax", "isFieldValue", "(Ljava/lang/String;)Z"⟩ : MethodName)) hown e30 (by rw [hml]; rfl) (hw _ (List.mem_of_getElem? (i := 23) rfl)) (hw _ (List.mem_of_getElem? (i := 24) rfl)) (hw _ (List.mem_of_getElem? (i := 25) rfl)) (hw _ (List.mem_of_getElem? (i := 26) rfl)) (by decide) (argsL := [(.ref b26)]) (st := []) (c_fv_3 l Z a0 hw b26 t27 ct27 c0 c1 c2 _ f27_1 f27_0 Eq27 Cq27 Vq27 Aq27 hc0 hc1 hc2) (lenOf pd_8 rfl) (hb hby at_227) (pc' := 230) rfl rfl rfl rfl (by decide) (W := 0) (Nat.le_of_eq rfl) (by decide) (by decide) (by decide) ?_
                    intro T31 X31 e31
                    refine gLoadI X31 hx (hb hby at_230) (pc' := 232) rfl rfl ?_
                    refine gIcmpNe X31 hx (hb hby at_232) (pc' := 239) (by decide) (by decide) (pn := 235) rfl (fun (c232 : ¬ (b2i (decide ((c0.toInt = 9 ∨ 32 ≤ c0.toInt ∧ c0.toInt ≠ 127) ∧ (c1.toInt = 9 ∨ 32 ≤ c1.toInt ∧ c1.toInt ≠ 127) ∧ (c2.toInt = 9 ∨ 32 ≤ c2.toInt ∧ c2.toInt ≠ 127)))) = (0 : Int32)) => ?_) (fun (c232 : (b2i (decide ((c0.toInt = 9 ∨ 32 ≤ c0.toInt ∧ c0.toInt ≠ 127) ∧ (c1.toInt = 9 ∨ 32 ≤ c1.toInt ∧ c1.toInt ≠ 127) ∧ (c2.toInt = 9 ∨ 32 ≤ c2.toInt ∧ c2.toInt ≠ 127)))) = (0 : Int32)) => ?_)
                    · exact absurd (b2_f (fun q => of_decide_eq_false (b2_0.mp c187) q.2.1)) c232
                    · refine gIconst X31 hx (v := (1 : Int32)) (hb hby at_235) (pc' := 236) rfl rfl ?_
                      refine gGoto X31 hx (hb hby at_236) (pc' := 240) (by decide) (by decide) ?_
                      exact gRetHN X31 hx hlk hret (by simp) (hb hby at_240) (w := (1 : Int32)) rfl e31 hS hk27 hZ hEL H27 (by decide) (by decide) (⟨rfl, N27⟩)
                  · refine gLoadI X30 hx (hb hby at_190) (pc' := 192) rfl rfl ?_
                    refine gIconst X30 hx (v := (3 : Int32)) (hb hby at_192) (pc' := 193) rfl rfl ?_
                    refine gIcmpLt X30 hx (hb hby at_193) (pc' := 204) (by decide) (by decide) (pn := 196) rfl (fun (c193 : (3 : Int) < (3 : Int)) => ?_) (fun (c193 : (3 : Int) ≤ (3 : Int)) => ?_)
                    · exact absurd c193 (by decide)
                    · refine gLoadI X30 hx (hb hby at_196) (pc' := 198) rfl rfl ?_
                      refine gCallSJ X30 hx hZ (y := (⟨"com/example/anteroom/anteroom/HttpSyntaxIsFieldValuePinLaw", "ok", "(C)Z"⟩ : MethodName)) hown e30 (by rw [hml]; rfl) (hw _ (List.mem_of_getElem? (i := 48) rfl)) (hw _ (List.mem_of_getElem? (i := 49) rfl)) (hw _ (List.mem_of_getElem? (i := 50) rfl)) (hw _ (List.mem_of_getElem? (i := 51) rfl)) (by decide) (argsL := [(.int c2)]) (st := []) (c_ok l Z a0 hw c2 _) (lenOf pd_4 rfl) (hb hby at_198) (pc' := 201) rfl rfl rfl rfl (by decide) (W := 0) (Nat.le_of_eq rfl) (by decide) (by decide) (by decide) ?_
                      intro T32 X32 e32
                      refine gIfEq X32 hx (hb hby at_201) (pc' := 222) (by decide) (by decide) (pn := 204) rfl (fun (c201 : (b2i (decide (c2.toInt = 9 ∨ 32 ≤ c2.toInt ∧ c2.toInt ≠ 127))) = (0 : Int32)) => ?_) (fun (c201 : ¬ (b2i (decide (c2.toInt = 9 ∨ 32 ≤ c2.toInt ∧ c2.toInt ≠ 127))) = (0 : Int32)) => ?_)
                      · refine gIconst X32 hx (v := (0 : Int32)) (hb hby at_222) (pc' := 223) rfl rfl ?_
                        refine gStoreI X32 hx (hb hby at_223) (l' := #[.val (.int p0), .val (.int p1), .val (.int p2), .val (.int p3), .val (.int p4), .val (.int (3 : Int32)), .val (.int c0), .val (.int c1), .val (.int c2), .val (.int c3), .val (.ref b22), .val (.ref b26), .val (.int (0 : Int32))]) (pc' := 225) rfl rfl ?_
                        refine gLoadA X32 hx (hb hby at_225) (pc' := 227) rfl rfl rfl ?_
                        refine gCallSJ X32 hx hZ (y := (⟨"com/example/anteroom/anteroom/HttpSyntax", "isFieldValue", "(Ljava/lang/String;)Z"⟩ : MethodName)) hown e32 (by rw [hml]; rfl) (hw _ (List.mem_of_getElem? (i := 23) rfl)) (hw _ (List.mem_of_getElem? (i := 24) rfl)) (hw _ (List.mem_of_getElem? (i := 25) rfl)) (hw _ (List.mem_of_getElem? (i := 26) rfl)) (by decide) (argsL := [(.ref b26)]) (st := []) (c_fv_3 l Z a0 hw b26 t27 ct27 c0 c1 c2 _ f27_1 f27_0 Eq27 Cq27 Vq27 Aq27 hc0 hc1 hc2) (lenOf pd_8 rfl) (hb hby at_227) (pc' := 230) rfl rfl rfl rfl (by decide) (W := 0) (Nat.le_of_eq rfl) (by decide) (by decide) (by decide) ?_
                        intro T33 X33 e33
                        refine gLoadI X33 hx (hb hby at_230) (pc' := 232) rfl rfl ?_
                        refine gIcmpNe X33 hx (hb hby at_232) (pc' := 239) (by decide) (by decide) (pn := 235) rfl (fun (c232 : ¬ (b2i (decide ((c0.toInt = 9 ∨ 32 ≤ c0.toInt ∧ c0.toInt ≠ 127) ∧ (c1.toInt = 9 ∨ 32 ≤ c1.toInt ∧ c1.toInt ≠ 127) ∧ (c2.toInt = 9 ∨ 32 ≤ c2.toInt ∧ c2.toInt ≠ 127)))) = (0 : Int32)) => ?_) (fun (c232 : (b2i (decide ((c0.toInt = 9 ∨ 32 ≤ c0.toInt ∧ c0.toInt ≠ 127) ∧ (c1.toInt = 9 ∨ 32 ≤ c1.toInt ∧ c1.toInt ≠ 127) ∧ (c2.toInt = 9 ∨ 32 ≤ c2.toInt ∧ c2.toInt ≠ 127)))) = (0 : Int32)) => ?_)
                        · exact absurd (b2_f (fun q => of_decide_eq_false (b2_0.mp c201) q.2.2)) c232
                        · refine gIconst X33 hx (v := (1 : Int32)) (hb hby at_235) (pc' := 236) rfl rfl ?_
                          refine gGoto X33 hx (hb hby at_236) (pc' := 240) (by decide) (by decide) ?_
                          exact gRetHN X33 hx hlk hret (by simp) (hb hby at_240) (w := (1 : Int32)) rfl e33 hS hk27 hZ hEL H27 (by decide) (by decide) (⟨rfl, N27⟩)
                      · refine gLoadI X32 hx (hb hby at_204) (pc' := 206) rfl rfl ?_
                        refine gIconst X32 hx (v := (4 : Int32)) (hb hby at_206) (pc' := 207) rfl rfl ?_
                        refine gIcmpLt X32 hx (hb hby at_207) (pc' := 218) (by decide) (by decide) (pn := 210) rfl (fun (c207 : (3 : Int) < (4 : Int)) => ?_) (fun (c207 : (4 : Int) ≤ (3 : Int)) => ?_)
                        · refine gIconst X32 hx (v := (1 : Int32)) (hb hby at_218) (pc' := 219) rfl rfl ?_
                          refine gGoto X32 hx (hb hby at_219) (pc' := 223) (by decide) (by decide) ?_
                          refine gStoreI X32 hx (hb hby at_223) (l' := #[.val (.int p0), .val (.int p1), .val (.int p2), .val (.int p3), .val (.int p4), .val (.int (3 : Int32)), .val (.int c0), .val (.int c1), .val (.int c2), .val (.int c3), .val (.ref b22), .val (.ref b26), .val (.int (1 : Int32))]) (pc' := 225) rfl rfl ?_
                          refine gLoadA X32 hx (hb hby at_225) (pc' := 227) rfl rfl rfl ?_
                          refine gCallSJ X32 hx hZ (y := (⟨"com/example/anteroom/anteroom/HttpSyntax", "isFieldValue", "(Ljava/lang/String;)Z"⟩ : MethodName)) hown e32 (by rw [hml]; rfl) (hw _ (List.mem_of_getElem? (i := 23) rfl)) (hw _ (List.mem_of_getElem? (i := 24) rfl)) (hw _ (List.mem_of_getElem? (i := 25) rfl)) (hw _ (List.mem_of_getElem? (i := 26) rfl)) (by decide) (argsL := [(.ref b26)]) (st := []) (c_fv_3 l Z a0 hw b26 t27 ct27 c0 c1 c2 _ f27_1 f27_0 Eq27 Cq27 Vq27 Aq27 hc0 hc1 hc2) (lenOf pd_8 rfl) (hb hby at_227) (pc' := 230) rfl rfl rfl rfl (by decide) (W := 0) (Nat.le_of_eq rfl) (by decide) (by decide) (by decide) ?_
                          intro T34 X34 e34
                          refine gLoadI X34 hx (hb hby at_230) (pc' := 232) rfl rfl ?_
                          refine gIcmpNe X34 hx (hb hby at_232) (pc' := 239) (by decide) (by decide) (pn := 235) rfl (fun (c232 : ¬ (b2i (decide ((c0.toInt = 9 ∨ 32 ≤ c0.toInt ∧ c0.toInt ≠ 127) ∧ (c1.toInt = 9 ∨ 32 ≤ c1.toInt ∧ c1.toInt ≠ 127) ∧ (c2.toInt = 9 ∨ 32 ≤ c2.toInt ∧ c2.toInt ≠ 127)))) = (1 : Int32)) => ?_) (fun (c232 : (b2i (decide ((c0.toInt = 9 ∨ 32 ≤ c0.toInt ∧ c0.toInt ≠ 127) ∧ (c1.toInt = 9 ∨ 32 ≤ c1.toInt ∧ c1.toInt ≠ 127) ∧ (c2.toInt = 9 ∨ 32 ≤ c2.toInt ∧ c2.toInt ≠ 127)))) = (1 : Int32)) => ?_)
                          · exact absurd (b2_t ⟨of_decide_eq_true (b2_n0.mp c173), of_decide_eq_true (b2_n0.mp c187), of_decide_eq_true (b2_n0.mp c201)⟩) c232
                          · refine gIconst X34 hx (v := (1 : Int32)) (hb hby at_235) (pc' := 236) rfl rfl ?_
                            refine gGoto X34 hx (hb hby at_236) (pc' := 240) (by decide) (by decide) ?_
                            exact gRetHN X34 hx hlk hret (by simp) (hb hby at_240) (w := (1 : Int32)) rfl e34 hS hk27 hZ hEL H27 (by decide) (by decide) (⟨rfl, N27⟩)
                        · exact absurd c207 (by decide)
        · exact absurd c76 (by decide)
      · exact absurd c57 (by decide)
    · exact absurd c43 (by decide)
  · refine gStoreI X0 hx (hb hby at_6) (l' := #[.val (.int p0), .val (.int p1), .val (.int p2), .val (.int p3), .val (.int p4), .val (.int (4 : Int32)), .unset, .unset, .unset, .unset, .unset, .unset, .unset]) (pc' := 8) rfl rfl ?_
    refine gLoadIN X0 hx (hb hby at_8) (pc' := 9) rfl rfl ?_
    refine gSipush X0 hx (v := (255 : Int32)) (hb hby at_9) (pc' := 12) rfl rfl ?_
    refine gIand X0 hx (hb hby at_12) (pc' := 13) rfl ?_
    refine gI2c X0 hx (hb hby at_13) (pc' := 14) rfl ?_
    generalize hg_c0 : ((p1 &&& (255 : Int32)).toUInt32.toUInt16.toUInt32.toInt32) = c0
    have hc0 : 0 ≤ c0.toInt ∧ c0.toInt ≤ 255 := by rw [← hg_c0]; exact own_char _
    refine gStoreI X0 hx (hb hby at_14) (l' := #[.val (.int p0), .val (.int p1), .val (.int p2), .val (.int p3), .val (.int p4), .val (.int (4 : Int32)), .val (.int c0), .unset, .unset, .unset, .unset, .unset, .unset]) (pc' := 16) rfl rfl ?_
    refine gLoadIN X0 hx (hb hby at_16) (pc' := 17) rfl rfl ?_
    refine gSipush X0 hx (v := (255 : Int32)) (hb hby at_17) (pc' := 20) rfl rfl ?_
    refine gIand X0 hx (hb hby at_20) (pc' := 21) rfl ?_
    refine gI2c X0 hx (hb hby at_21) (pc' := 22) rfl ?_
    generalize hg_c1 : ((p2 &&& (255 : Int32)).toUInt32.toUInt16.toUInt32.toInt32) = c1
    have hc1 : 0 ≤ c1.toInt ∧ c1.toInt ≤ 255 := by rw [← hg_c1]; exact own_char _
    refine gStoreI X0 hx (hb hby at_22) (l' := #[.val (.int p0), .val (.int p1), .val (.int p2), .val (.int p3), .val (.int p4), .val (.int (4 : Int32)), .val (.int c0), .val (.int c1), .unset, .unset, .unset, .unset, .unset]) (pc' := 24) rfl rfl ?_
    refine gLoadIN X0 hx (hb hby at_24) (pc' := 25) rfl rfl ?_
    refine gSipush X0 hx (v := (255 : Int32)) (hb hby at_25) (pc' := 28) rfl rfl ?_
    refine gIand X0 hx (hb hby at_28) (pc' := 29) rfl ?_
    refine gI2c X0 hx (hb hby at_29) (pc' := 30) rfl ?_
    generalize hg_c2 : ((p3 &&& (255 : Int32)).toUInt32.toUInt16.toUInt32.toInt32) = c2
    have hc2 : 0 ≤ c2.toInt ∧ c2.toInt ≤ 255 := by rw [← hg_c2]; exact own_char _
    refine gStoreI X0 hx (hb hby at_30) (l' := #[.val (.int p0), .val (.int p1), .val (.int p2), .val (.int p3), .val (.int p4), .val (.int (4 : Int32)), .val (.int c0), .val (.int c1), .val (.int c2), .unset, .unset, .unset, .unset]) (pc' := 32) rfl rfl ?_
    refine gLoadI X0 hx (hb hby at_32) (pc' := 34) rfl rfl ?_
    refine gSipush X0 hx (v := (255 : Int32)) (hb hby at_34) (pc' := 37) rfl rfl ?_
    refine gIand X0 hx (hb hby at_37) (pc' := 38) rfl ?_
    refine gI2c X0 hx (hb hby at_38) (pc' := 39) rfl ?_
    generalize hg_c3 : ((p4 &&& (255 : Int32)).toUInt32.toUInt16.toUInt32.toInt32) = c3
    have hc3 : 0 ≤ c3.toInt ∧ c3.toInt ≤ 255 := by rw [← hg_c3]; exact own_char _
    refine gStoreI X0 hx (hb hby at_39) (l' := #[.val (.int p0), .val (.int p1), .val (.int p2), .val (.int p3), .val (.int p4), .val (.int (4 : Int32)), .val (.int c0), .val (.int c1), .val (.int c2), .val (.int c3), .unset, .unset, .unset]) (pc' := 41) rfl rfl ?_
    refine gLoadI X0 hx (hb hby at_41) (pc' := 43) rfl rfl ?_
    refine gIfNeT X0 hx (hb hby at_43) (pc' := 54) (by decide) (by decide) (pn := 46) rfl (fun (c43 : ¬ (4 : Int) = (0 : Int)) => ?_) (fun (c43 : (4 : Int) = (0 : Int)) => ?_)
    · refine gLoadI X0 hx (hb hby at_54) (pc' := 56) rfl rfl ?_
      refine gIconst X0 hx (v := (1 : Int32)) (hb hby at_56) (pc' := 57) rfl rfl ?_
      refine gIcmpNeT X0 hx (hb hby at_57) (pc' := 73) (by decide) (by decide) (pn := 60) rfl (fun (c57 : ¬ (4 : Int) = (1 : Int)) => ?_) (fun (c57 : (4 : Int) = (1 : Int)) => ?_)
      · refine gLoadI X0 hx (hb hby at_73) (pc' := 75) rfl rfl ?_
        refine gIconst X0 hx (v := (2 : Int32)) (hb hby at_75) (pc' := 76) rfl rfl ?_
        refine gIcmpNeT X0 hx (hb hby at_76) (pc' := 97) (by decide) (by decide) (pn := 79) rfl (fun (c76 : ¬ (4 : Int) = (2 : Int)) => ?_) (fun (c76 : (4 : Int) = (2 : Int)) => ?_)
        · refine gLoadI X0 hx (hb hby at_97) (pc' := 99) rfl rfl ?_
          refine gIconst X0 hx (v := (3 : Int32)) (hb hby at_99) (pc' := 100) rfl rfl ?_
          refine gIcmpNeT X0 hx (hb hby at_100) (pc' := 126) (by decide) (by decide) (pn := 103) rfl (fun (c100 : ¬ (4 : Int) = (3 : Int)) => ?_) (fun (c100 : (4 : Int) = (3 : Int)) => ?_)
          · refine gIconst X0 hx (v := (4 : Int32)) (hb hby at_126) (pc' := 127) rfl rfl ?_
            refine gNewP X0 hx hZ (hw _ (List.mem_of_getElem? (i := 1) rfl)) e0 (n := (4 : Int32)) (hb hby at_127) (by decide) (cap := 4) (by decide) (by decide) (by decide) (by decide) 4 (pc' := 129) rfl (fun T35 h35 b35 ck35 X35 e35 g35 E35 A35 => ?_)
            have H35 := H0.trans (CHr.ext E35 H0.1)
            have hk35 := Nat.le_trans (Nat.zero_le _) E35.1
            have s35_b := Safe.ext E35 H0.1 (Safe.new (Nat.le_of_eq g35.symm))
            have f35_0 := hCpt.ext E35
            have f35_1 := hSio.ext E35
            have sz_b35 : h0.size ≤ b35 := Nat.le_trans (Nat.le_refl _) (Nat.le_of_eq g35.symm)
            have zs35 : h0.size ≤ h35.size := Nat.le_trans (Nat.le_refl _) E35.1
            have V35 : Arv Z h35 b35 ck35 .char (4 : Int32) [(.int (0 : Int32)), (.int (0 : Int32)), (.int (0 : Int32)), (.int (0 : Int32))] (.int (0 : Int32)) := A35
            refine gDup X35 hx (hb hby at_129) (pc' := 130) rfl rfl ?_
            refine gIconst X35 hx (v := (0 : Int32)) (hb hby at_130) (pc' := 131) rfl rfl ?_
            refine gLoadI X35 hx (hb hby at_131) (pc' := 133) rfl rfl ?_
            refine gCastore X35 hx hZ e35 (x := c0) V35 (j := (0 : Int32)) (by decide) (by decide) 0 (by decide) (by simp) (hb hby at_133) (pc' := 134) rfl (fun T36 h36 X36 e36 W36 A36 => ?_)
            have S36 := s35_b
            have H36 := H35.trans (CHr.wr W36 S36 H35.1)
            have hk36 := Nat.le_trans hk35 (Nat.le_of_eq W36.size.symm)
            have s36_0 := Safe.wr W36 S36 H35.1 s35_b
            have f36_0 := f35_0.wr W36
            have f36_1 := f35_1.wr W36
            have zs36 : h0.size ≤ h36.size := by rw [W36.size]; exact zs35
            have N36 := Fr.snoc X36 (Fr.nil h0.size) sz_b35
            have V36 : Arv Z h36 b35 _ .char (4 : Int32) [(.int c0), (.int (0 : Int32)), (.int (0 : Int32)), (.int (0 : Int32))] (.int (0 : Int32)) := (by have q := A36; rw [own_nc (own_c8 hc0)] at q; exact q)
            refine gDup X36 hx (hb hby at_134) (pc' := 135) rfl rfl ?_
            refine gIconst X36 hx (v := (1 : Int32)) (hb hby at_135) (pc' := 136) rfl rfl ?_
            refine gLoadI X36 hx (hb hby at_136) (pc' := 138) rfl rfl ?_
            refine gCastore X36 hx hZ e36 (x := c1) V36 (j := (1 : Int32)) (by decide) (by decide) 1 (by decide) (by simp) (hb hby at_138) (pc' := 139) rfl (fun T37 h37 X37 e37 W37 A37 => ?_)
            have S37 := s36_0
            have H37 := H36.trans (CHr.wr W37 S37 H36.1)
            have hk37 := Nat.le_trans hk36 (Nat.le_of_eq W37.size.symm)
            have s37_0 := Safe.wr W37 S37 H36.1 s36_0
            have f37_0 := f36_0.wr W37
            have f37_1 := f36_1.wr W37
            have zs37 : h0.size ≤ h37.size := by rw [W37.size]; exact zs36
            have N37 := Fr.snoc X37 N36 sz_b35
            have V37 : Arv Z h37 b35 _ .char (4 : Int32) [(.int c0), (.int c1), (.int (0 : Int32)), (.int (0 : Int32))] (.int (0 : Int32)) := (by have q := A37; rw [own_nc (own_c8 hc1)] at q; exact q)
            refine gDup X37 hx (hb hby at_139) (pc' := 140) rfl rfl ?_
            refine gIconst X37 hx (v := (2 : Int32)) (hb hby at_140) (pc' := 141) rfl rfl ?_
            refine gLoadI X37 hx (hb hby at_141) (pc' := 143) rfl rfl ?_
            refine gCastore X37 hx hZ e37 (x := c2) V37 (j := (2 : Int32)) (by decide) (by decide) 2 (by decide) (by simp) (hb hby at_143) (pc' := 144) rfl (fun T38 h38 X38 e38 W38 A38 => ?_)
            have S38 := s37_0
            have H38 := H37.trans (CHr.wr W38 S38 H37.1)
            have hk38 := Nat.le_trans hk37 (Nat.le_of_eq W38.size.symm)
            have s38_0 := Safe.wr W38 S38 H37.1 s37_0
            have f38_0 := f37_0.wr W38
            have f38_1 := f37_1.wr W38
            have zs38 : h0.size ≤ h38.size := by rw [W38.size]; exact zs37
            have N38 := Fr.snoc X38 N37 sz_b35
            have V38 : Arv Z h38 b35 _ .char (4 : Int32) [(.int c0), (.int c1), (.int c2), (.int (0 : Int32))] (.int (0 : Int32)) := (by have q := A38; rw [own_nc (own_c8 hc2)] at q; exact q)
            refine gDup X38 hx (hb hby at_144) (pc' := 145) rfl rfl ?_
            refine gIconst X38 hx (v := (3 : Int32)) (hb hby at_145) (pc' := 146) rfl rfl ?_
            refine gLoadI X38 hx (hb hby at_146) (pc' := 148) rfl rfl ?_
            refine gCastore X38 hx hZ e38 (x := c3) V38 (j := (3 : Int32)) (by decide) (by decide) 3 (by decide) (by simp) (hb hby at_148) (pc' := 149) rfl (fun T39 h39 X39 e39 W39 A39 => ?_)
            have S39 := s38_0
            have H39 := H38.trans (CHr.wr W39 S39 H38.1)
            have hk39 := Nat.le_trans hk38 (Nat.le_of_eq W39.size.symm)
            have s39_0 := Safe.wr W39 S39 H38.1 s38_0
            have f39_0 := f38_0.wr W39
            have f39_1 := f38_1.wr W39
            have zs39 : h0.size ≤ h39.size := by rw [W39.size]; exact zs38
            have N39 := Fr.snoc X39 N38 sz_b35
            have V39 : Arv Z h39 b35 _ .char (4 : Int32) [(.int c0), (.int c1), (.int c2), (.int c3)] (.int (0 : Int32)) := (by have q := A39; rw [own_nc (own_c8 hc3)] at q; exact q)
            refine gStoreA X39 hx (hb hby at_149) (l' := #[.val (.int p0), .val (.int p1), .val (.int p2), .val (.int p3), .val (.int p4), .val (.int (4 : Int32)), .val (.int c0), .val (.int c1), .val (.int c2), .val (.int c3), .val (.ref b35), .unset, .unset]) (pc' := 151) rfl rfl rfl ?_
            refine gNew X39 hx hZ hown (hw _ (List.mem_of_getElem? (i := 2) rfl)) (hw _ (List.mem_of_getElem? (i := 3) rfl)) (hw _ (List.mem_of_getElem? (i := 4) rfl)) e39 (hb hby at_151) (pc' := 154) rfl (by decide) (by decide) (fun T40 h40 b40 X40 e40 g40 E40 A40 D40 => ?_)
            have ne_b35_b40 : b35 ≠ b40 := Nat.ne_of_lt (Nat.lt_of_lt_of_eq V39.lt g40.symm)
            have H40 := H39.trans (CHr.ext E40 H39.1)
            have hk40 := Nat.le_trans hk39 E40.1
            have s40_0 := Safe.ext E40 H39.1 s39_0
            have s40_b := Safe.ext E40 H39.1 (Safe.new (Nat.le_of_eq g40.symm))
            have f40_0 := f39_0.ext E40
            have f40_1 := f39_1.ext E40
            have f40_2 := V39.ext E40
            have sz_b40 : h0.size ≤ b40 := Nat.le_trans zs39 (Nat.le_of_eq g40.symm)
            have zs40 : h0.size ≤ h40.size := Nat.le_trans zs39 E40.1
            have F40_value : Fld Z h40 b40 "java/lang/String" "value" "[B" .null := D40 (Or.inr (hw _ (List.mem_of_getElem? (i := 17) rfl))) (ty := (.array .byte)) (by decide)
            have F40_coder : Fld Z h40 b40 "java/lang/String" "coder" "B" (.int (0 : Int32)) := D40 (Or.inr (hw _ (List.mem_of_getElem? (i := 18) rfl))) (ty := .byte) (by decide)
            refine gDup X40 hx (hb hby at_154) (pc' := 155) rfl rfl ?_
            refine gLoadA X40 hx (hb hby at_155) (pc' := 157) rfl rfl rfl ?_
            refine gCallI X40 hx hZ (y := (⟨"java/lang/String", "<init>", "([C)V"⟩ : MethodName)) rfl hown e40 (by rw [hml]; rfl) (hw _ (List.mem_of_getElem? (i := 5) rfl)) (hw _ (List.mem_of_getElem? (i := 6) rfl)) (hw _ (List.mem_of_getElem? (i := 4) rfl)) (hw _ (List.mem_of_getElem? (i := 7) rfl)) (by decide) (argsL := [(.ref b35)]) (st := [(.ref b40)]) (c_sinit_4 l Z a0 hw b40 b35 _ h0.size c0 c1 c2 c3 h40 f40_0 sz_b40 zs40 ne_b35_b40 A40 F40_coder F40_value f40_2 hc0 hc1 hc2 hc3) (lenOf pd_11 rfl) (hb hby at_157) (pc' := 160) rfl rfl (by decide) (W := 1) (Nat.le_of_eq rfl) (by decide) (by decide) (by decide) ?_
            intro T41 v41 L41 X41 hQ41
            obtain ⟨t41, ct41, rfl, Nq41, Kq41, gt41, Eq41, Cq41, Vq41, Aq41⟩ := hQ41
            have N41 := Fr.app N39 Nq41
            have H41 := H40.trans (CHr.keep Kq41 (sfS s40_b sf0) H40.1)
            have hk41 := Nat.le_trans hk40 Kq41.1
            have s41_0 := Safe.keep Kq41 (sfS s40_b sf0) H40.1 s40_0
            have s41_1 := Safe.keep Kq41 (sfS s40_b sf0) H40.1 s40_b
            have f41_0 := own_cpt_keep f40_0 Kq41 (nsS (Exa.nostat A40) ns0)
            have f41_1 := own_sio_keep f40_1 Kq41 (nsS (Exa.nostat A40) ns0)
            have f41_2 := f40_2.keep Kq41 (ninS ne_b35_b40 nin0)
            have f41_3 := A40.keep Kq41
            have zs41 := Nat.le_trans zs40 Kq41.1
            refine gStoreA X41 hx (hb hby at_160) (l' := #[.val (.int p0), .val (.int p1), .val (.int p2), .val (.int p3), .val (.int p4), .val (.int (4 : Int32)), .val (.int c0), .val (.int c1), .val (.int c2), .val (.int c3), .val (.ref b35), .val (.ref b40), .unset]) (pc' := 162) rfl rfl rfl ?_
            refine gLoadI X41 hx (hb hby at_162) (pc' := 164) rfl rfl ?_
            refine gIconst X41 hx (v := (1 : Int32)) (hb hby at_164) (pc' := 165) rfl rfl ?_
            refine gIcmpLt X41 hx (hb hby at_165) (pc' := 176) (by decide) (by decide) (pn := 168) rfl (fun (c165 : (4 : Int) < (1 : Int)) => ?_) (fun (c165 : (1 : Int) ≤ (4 : Int)) => ?_)
            · exact absurd c165 (by decide)
            · refine gLoadI X41 hx (hb hby at_168) (pc' := 170) rfl rfl ?_
              refine gCallSJ X41 hx hZ (y := (⟨"com/example/anteroom/anteroom/HttpSyntaxIsFieldValuePinLaw", "ok", "(C)Z"⟩ : MethodName)) hown rfl (by rw [hml]; rfl) (hw _ (List.mem_of_getElem? (i := 48) rfl)) (hw _ (List.mem_of_getElem? (i := 49) rfl)) (hw _ (List.mem_of_getElem? (i := 50) rfl)) (hw _ (List.mem_of_getElem? (i := 51) rfl)) (by decide) (argsL := [(.int c0)]) (st := []) (c_ok l Z a0 hw c0 _) (lenOf pd_4 rfl) (hb hby at_170) (pc' := 173) rfl rfl rfl rfl (by decide) (W := 0) (Nat.le_of_eq rfl) (by decide) (by decide) (by decide) ?_
              intro T42 X42 e42
              refine gIfEq X42 hx (hb hby at_173) (pc' := 222) (by decide) (by decide) (pn := 176) rfl (fun (c173 : (b2i (decide (c0.toInt = 9 ∨ 32 ≤ c0.toInt ∧ c0.toInt ≠ 127))) = (0 : Int32)) => ?_) (fun (c173 : ¬ (b2i (decide (c0.toInt = 9 ∨ 32 ≤ c0.toInt ∧ c0.toInt ≠ 127))) = (0 : Int32)) => ?_)
              · refine gIconst X42 hx (v := (0 : Int32)) (hb hby at_222) (pc' := 223) rfl rfl ?_
                refine gStoreI X42 hx (hb hby at_223) (l' := #[.val (.int p0), .val (.int p1), .val (.int p2), .val (.int p3), .val (.int p4), .val (.int (4 : Int32)), .val (.int c0), .val (.int c1), .val (.int c2), .val (.int c3), .val (.ref b35), .val (.ref b40), .val (.int (0 : Int32))]) (pc' := 225) rfl rfl ?_
                refine gLoadA X42 hx (hb hby at_225) (pc' := 227) rfl rfl rfl ?_
                refine gCallSJ X42 hx hZ (y := (⟨"com/example/anteroom/anteroom/HttpSyntax", "isFieldValue", "(Ljava/lang/String;)Z"⟩ : MethodName)) hown e42 (by rw [hml]; rfl) (hw _ (List.mem_of_getElem? (i := 23) rfl)) (hw _ (List.mem_of_getElem? (i := 24) rfl)) (hw _ (List.mem_of_getElem? (i := 25) rfl)) (hw _ (List.mem_of_getElem? (i := 26) rfl)) (by decide) (argsL := [(.ref b40)]) (st := []) (c_fv_4 l Z a0 hw b40 t41 ct41 c0 c1 c2 c3 _ f41_1 f41_0 Eq41 Cq41 Vq41 Aq41 hc0 hc1 hc2 hc3) (lenOf pd_8 rfl) (hb hby at_227) (pc' := 230) rfl rfl rfl rfl (by decide) (W := 0) (Nat.le_of_eq rfl) (by decide) (by decide) (by decide) ?_
                intro T43 X43 e43
                refine gLoadI X43 hx (hb hby at_230) (pc' := 232) rfl rfl ?_
                refine gIcmpNe X43 hx (hb hby at_232) (pc' := 239) (by decide) (by decide) (pn := 235) rfl (fun (c232 : ¬ (b2i (decide ((c0.toInt = 9 ∨ 32 ≤ c0.toInt ∧ c0.toInt ≠ 127) ∧ (c1.toInt = 9 ∨ 32 ≤ c1.toInt ∧ c1.toInt ≠ 127) ∧ (c2.toInt = 9 ∨ 32 ≤ c2.toInt ∧ c2.toInt ≠ 127) ∧ (c3.toInt = 9 ∨ 32 ≤ c3.toInt ∧ c3.toInt ≠ 127)))) = (0 : Int32)) => ?_) (fun (c232 : (b2i (decide ((c0.toInt = 9 ∨ 32 ≤ c0.toInt ∧ c0.toInt ≠ 127) ∧ (c1.toInt = 9 ∨ 32 ≤ c1.toInt ∧ c1.toInt ≠ 127) ∧ (c2.toInt = 9 ∨ 32 ≤ c2.toInt ∧ c2.toInt ≠ 127) ∧ (c3.toInt = 9 ∨ 32 ≤ c3.toInt ∧ c3.toInt ≠ 127)))) = (0 : Int32)) => ?_)
                · exact absurd (b2_f (fun q => of_decide_eq_false (b2_0.mp c173) q.1)) c232
                · refine gIconst X43 hx (v := (1 : Int32)) (hb hby at_235) (pc' := 236) rfl rfl ?_
                  refine gGoto X43 hx (hb hby at_236) (pc' := 240) (by decide) (by decide) ?_
                  exact gRetHN X43 hx hlk hret (by simp) (hb hby at_240) (w := (1 : Int32)) rfl e43 hS hk41 hZ hEL H41 (by decide) (by decide) (⟨rfl, N41⟩)
              · refine gLoadI X42 hx (hb hby at_176) (pc' := 178) rfl rfl ?_
                refine gIconst X42 hx (v := (2 : Int32)) (hb hby at_178) (pc' := 179) rfl rfl ?_
                refine gIcmpLt X42 hx (hb hby at_179) (pc' := 190) (by decide) (by decide) (pn := 182) rfl (fun (c179 : (4 : Int) < (2 : Int)) => ?_) (fun (c179 : (2 : Int) ≤ (4 : Int)) => ?_)
                · exact absurd c179 (by decide)
                · refine gLoadI X42 hx (hb hby at_182) (pc' := 184) rfl rfl ?_
                  refine gCallSJ X42 hx hZ (y := (⟨"com/example/anteroom/anteroom/HttpSyntaxIsFieldValuePinLaw", "ok", "(C)Z"⟩ : MethodName)) hown e42 (by rw [hml]; rfl) (hw _ (List.mem_of_getElem? (i := 48) rfl)) (hw _ (List.mem_of_getElem? (i := 49) rfl)) (hw _ (List.mem_of_getElem? (i := 50) rfl)) (hw _ (List.mem_of_getElem? (i := 51) rfl)) (by decide) (argsL := [(.int c1)]) (st := []) (c_ok l Z a0 hw c1 _) (lenOf pd_4 rfl) (hb hby at_184) (pc' := 187) rfl rfl rfl rfl (by decide) (W := 0) (Nat.le_of_eq rfl) (by decide) (by decide) (by decide) ?_
                  intro T44 X44 e44
                  refine gIfEq X44 hx (hb hby at_187) (pc' := 222) (by decide) (by decide) (pn := 190) rfl (fun (c187 : (b2i (decide (c1.toInt = 9 ∨ 32 ≤ c1.toInt ∧ c1.toInt ≠ 127))) = (0 : Int32)) => ?_) (fun (c187 : ¬ (b2i (decide (c1.toInt = 9 ∨ 32 ≤ c1.toInt ∧ c1.toInt ≠ 127))) = (0 : Int32)) => ?_)
                  · refine gIconst X44 hx (v := (0 : Int32)) (hb hby at_222) (pc' := 223) rfl rfl ?_
                    refine gStoreI X44 hx (hb hby at_223) (l' := #[.val (.int p0), .val (.int p1), .val (.int p2), .val (.int p3), .val (.int p4), .val (.int (4 : Int32)), .val (.int c0), .val (.int c1), .val (.int c2), .val (.int c3), .val (.ref b35), .val (.ref b40), .val (.int (0 : Int32))]) (pc' := 225) rfl rfl ?_
                    refine gLoadA X44 hx (hb hby at_225) (pc' := 227) rfl rfl rfl ?_
                    refine gCallSJ X44 hx hZ (y := (⟨"com/example/anteroom/anteroom/HttpSyntax", "isFieldValue", "(Ljava/lang/String;)Z"⟩ : MethodName)) hown e44 (by rw [hml]; rfl) (hw _ (List.mem_of_getElem? (i := 23) rfl)) (hw _ (List.mem_of_getElem? (i := 24) rfl)) (hw _ (List.mem_of_getElem? (i := 25) rfl)) (hw _ (List.mem_of_getElem? (i := 26) rfl)) (by decide) (argsL := [(.ref b40)]) (st := []) (c_fv_4 l Z a0 hw b40 t41 ct41 c0 c1 c2 c3 _ f41_1 f41_0 Eq41 Cq41 Vq41 Aq41 hc0 hc1 hc2 hc3) (lenOf pd_8 rfl) (hb hby at_227) (pc' := 230) rfl rfl rfl rfl (by decide) (W := 0) (Nat.le_of_eq rfl) (by decide) (by decide) (by decide) ?_
                    intro T45 X45 e45
                    refine gLoadI X45 hx (hb hby at_230) (pc' := 232) rfl rfl ?_
                    refine gIcmpNe X45 hx (hb hby at_232) (pc' := 239) (by decide) (by decide) (pn := 235) rfl (fun (c232 : ¬ (b2i (decide ((c0.toInt = 9 ∨ 32 ≤ c0.toInt ∧ c0.toInt ≠ 127) ∧ (c1.toInt = 9 ∨ 32 ≤ c1.toInt ∧ c1.toInt ≠ 127) ∧ (c2.toInt = 9 ∨ 32 ≤ c2.toInt ∧ c2.toInt ≠ 127) ∧ (c3.toInt = 9 ∨ 32 ≤ c3.toInt ∧ c3.toInt ≠ 127)))) = (0 : Int32)) => ?_) (fun (c232 : (b2i (decide ((c0.toInt = 9 ∨ 32 ≤ c0.toInt ∧ c0.toInt ≠ 127) ∧ (c1.toInt = 9 ∨ 32 ≤ c1.toInt ∧ c1.toInt ≠ 127) ∧ (c2.toInt = 9 ∨ 32 ≤ c2.toInt ∧ c2.toInt ≠ 127) ∧ (c3.toInt = 9 ∨ 32 ≤ c3.toInt ∧ c3.toInt ≠ 127)))) = (0 : Int32)) => ?_)
                    · exact absurd (b2_f (fun q => of_decide_eq_false (b2_0.mp c187) q.2.1)) c232
                    · refine gIconst X45 hx (v := (1 : Int32)) (hb hby at_235) (pc' := 236) rfl rfl ?_
                      refine gGoto X45 hx (hb hby at_236) (pc' := 240) (by decide) (by decide) ?_
                      exact gRetHN X45 hx hlk hret (by simp) (hb hby at_240) (w := (1 : Int32)) rfl e45 hS hk41 hZ hEL H41 (by decide) (by decide) (⟨rfl, N41⟩)
                  · refine gLoadI X44 hx (hb hby at_190) (pc' := 192) rfl rfl ?_
                    refine gIconst X44 hx (v := (3 : Int32)) (hb hby at_192) (pc' := 193) rfl rfl ?_
                    refine gIcmpLt X44 hx (hb hby at_193) (pc' := 204) (by decide) (by decide) (pn := 196) rfl (fun (c193 : (4 : Int) < (3 : Int)) => ?_) (fun (c193 : (3 : Int) ≤ (4 : Int)) => ?_)
                    · exact absurd c193 (by decide)
                    · refine gLoadI X44 hx (hb hby at_196) (pc' := 198) rfl rfl ?_
                      refine gCallSJ X44 hx hZ (y := (⟨"com/example/anteroom/anteroom/HttpSyntaxIsFieldValuePinLaw", "ok", "(C)Z"⟩ : MethodName)) hown e44 (by rw [hml]; rfl) (hw _ (List.mem_of_getElem? (i := 48) rfl)) (hw _ (List.mem_of_getElem? (i := 49) rfl)) (hw _ (List.mem_of_getElem? (i := 50) rfl)) (hw _ (List.mem_of_getElem? (i := 51) rfl)) (by decide) (argsL := [(.int c2)]) (st := []) (c_ok l Z a0 hw c2 _) (lenOf pd_4 rfl) (hb hby at_198) (pc' := 201) rfl rfl rfl rfl (by decide) (W := 0) (Nat.le_of_eq rfl) (by decide) (by decide) (by decide) ?_
                      intro T46 X46 e46
                      refine gIfEq X46 hx (hb hby at_201) (pc' := 222) (by decide) (by decide) (pn := 204) rfl (fun (c201 : (b2i (decide (c2.toInt = 9 ∨ 32 ≤ c2.toInt ∧ c2.toInt ≠ 127))) = (0 : Int32)) => ?_) (fun (c201 : ¬ (b2i (decide (c2.toInt = 9 ∨ 32 ≤ c2.toInt ∧ c2.toInt ≠ 127))) = (0 : Int32)) => ?_)
                      · refine gIconst X46 hx (v := (0 : Int32)) (hb hby at_222) (pc' := 223) rfl rfl ?_
                        refine gStoreI X46 hx (hb hby at_223) (l' := #[.val (.int p0), .val (.int p1), .val (.int p2), .val (.int p3), .val (.int p4), .val (.int (4 : Int32)), .val (.int c0), .val (.int c1), .val (.int c2), .val (.int c3), .val (.ref b35), .val (.ref b40), .val (.int (0 : Int32))]) (pc' := 225) rfl rfl ?_
                        refine gLoadA X46 hx (hb hby at_225) (pc' := 227) rfl rfl rfl ?_
                        refine gCallSJ X46 hx hZ (y := (⟨"com/example/anteroom/anteroom/HttpSyntax", "isFieldValue", "(Ljava/lang/String;)Z"⟩ : MethodName)) hown e46 (by rw [hml]; rfl) (hw _ (List.mem_of_getElem? (i := 23) rfl)) (hw _ (List.mem_of_getElem? (i := 24) rfl)) (hw _ (List.mem_of_getElem? (i := 25) rfl)) (hw _ (List.mem_of_getElem? (i := 26) rfl)) (by decide) (argsL := [(.ref b40)]) (st := []) (c_fv_4 l Z a0 hw b40 t41 ct41 c0 c1 c2 c3 _ f41_1 f41_0 Eq41 Cq41 Vq41 Aq41 hc0 hc1 hc2 hc3) (lenOf pd_8 rfl) (hb hby at_227) (pc' := 230) rfl rfl rfl rfl (by decide) (W := 0) (Nat.le_of_eq rfl) (by decide) (by decide) (by decide) ?_
                        intro T47 X47 e47
                        refine gLoadI X47 hx (hb hby at_230) (pc' := 232) rfl rfl ?_
                        refine gIcmpNe X47 hx (hb hby at_232) (pc' := 239) (by decide) (by decide) (pn := 235) rfl (fun (c232 : ¬ (b2i (decide ((c0.toInt = 9 ∨ 32 ≤ c0.toInt ∧ c0.toInt ≠ 127) ∧ (c1.toInt = 9 ∨ 32 ≤ c1.toInt ∧ c1.toInt ≠ 127) ∧ (c2.toInt = 9 ∨ 32 ≤ c2.toInt ∧ c2.toInt ≠ 127) ∧ (c3.toInt = 9 ∨ 32 ≤ c3.toInt ∧ c3.toInt ≠ 127)))) = (0 : Int32)) => ?_) (fun (c232 : (b2i (decide ((c0.toInt = 9 ∨ 32 ≤ c0.toInt ∧ c0.toInt ≠ 127) ∧ (c1.toInt = 9 ∨ 32 ≤ c1.toInt ∧ c1.toInt ≠ 127) ∧ (c2.toInt = 9 ∨ 32 ≤ c2.toInt ∧ c2.toInt ≠ 127) ∧ (c3.toInt = 9 ∨ 32 ≤ c3.toInt ∧ c3.toInt ≠ 127)))) = (0 : Int32)) => ?_)
                        · exact absurd (b2_f (fun q => of_decide_eq_false (b2_0.mp c201) q.2.2.1)) c232
                        · refine gIconst X47 hx (v := (1 : Int32)) (hb hby at_235) (pc' := 236) rfl rfl ?_
                          refine gGoto X47 hx (hb hby at_236) (pc' := 240) (by decide) (by decide) ?_
                          exact gRetHN X47 hx hlk hret (by simp) (hb hby at_240) (w := (1 : Int32)) rfl e47 hS hk41 hZ hEL H41 (by decide) (by decide) (⟨rfl, N41⟩)
                      · refine gLoadI X46 hx (hb hby at_204) (pc' := 206) rfl rfl ?_
                        refine gIconst X46 hx (v := (4 : Int32)) (hb hby at_206) (pc' := 207) rfl rfl ?_
                        refine gIcmpLt X46 hx (hb hby at_207) (pc' := 218) (by decide) (by decide) (pn := 210) rfl (fun (c207 : (4 : Int) < (4 : Int)) => ?_) (fun (c207 : (4 : Int) ≤ (4 : Int)) => ?_)
                        · exact absurd c207 (by decide)
                        · refine gLoadI X46 hx (hb hby at_210) (pc' := 212) rfl rfl ?_
                          refine gCallSJ X46 hx hZ (y := (⟨"com/example/anteroom/anteroom/HttpSyntaxIsFieldValuePinLaw", "ok", "(C)Z"⟩ : MethodName)) hown e46 (by rw [hml]; rfl) (hw _ (List.mem_of_getElem? (i := 48) rfl)) (hw _ (List.mem_of_getElem? (i := 49) rfl)) (hw _ (List.mem_of_getElem? (i := 50) rfl)) (hw _ (List.mem_of_getElem? (i := 51) rfl)) (by decide) (argsL := [(.int c3)]) (st := []) (c_ok l Z a0 hw c3 _) (lenOf pd_4 rfl) (hb hby at_212) (pc' := 215) rfl rfl rfl rfl (by decide) (W := 0) (Nat.le_of_eq rfl) (by decide) (by decide) (by decide) ?_
                          intro T48 X48 e48
                          refine gIfEq X48 hx (hb hby at_215) (pc' := 222) (by decide) (by decide) (pn := 218) rfl (fun (c215 : (b2i (decide (c3.toInt = 9 ∨ 32 ≤ c3.toInt ∧ c3.toInt ≠ 127))) = (0 : Int32)) => ?_) (fun (c215 : ¬ (b2i (decide (c3.toInt = 9 ∨ 32 ≤ c3.toInt ∧ c3.toInt ≠ 127))) = (0 : Int32)) => ?_)
                          · refine gIconst X48 hx (v := (0 : Int32)) (hb hby at_222) (pc' := 223) rfl rfl ?_
                            refine gStoreI X48 hx (hb hby at_223) (l' := #[.val (.int p0), .val (.int p1), .val (.int p2), .val (.int p3), .val (.int p4), .val (.int (4 : Int32)), .val (.int c0), .val (.int c1), .val (.int c2), .val (.int c3), .val (.ref b35), .val (.ref b40), .val (.int (0 : Int32))]) (pc' := 225) rfl rfl ?_
                            refine gLoadA X48 hx (hb hby at_225) (pc' := 227) rfl rfl rfl ?_
                            refine gCallSJ X48 hx hZ (y := (⟨"com/example/anteroom/anteroom/HttpSyntax", "isFieldValue", "(Ljava/lang/String;)Z"⟩ : MethodName)) hown e48 (by rw [hml]; rfl) (hw _ (List.mem_of_getElem? (i := 23) rfl)) (hw _ (List.mem_of_getElem? (i := 24) rfl)) (hw _ (List.mem_of_getElem? (i := 25) rfl)) (hw _ (List.mem_of_getElem? (i := 26) rfl)) (by decide) (argsL := [(.ref b40)]) (st := []) (c_fv_4 l Z a0 hw b40 t41 ct41 c0 c1 c2 c3 _ f41_1 f41_0 Eq41 Cq41 Vq41 Aq41 hc0 hc1 hc2 hc3) (lenOf pd_8 rfl) (hb hby at_227) (pc' := 230) rfl rfl rfl rfl (by decide) (W := 0) (Nat.le_of_eq rfl) (by decide) (by decide) (by decide) ?_
                            intro T49 X49 e49
                            refine gLoadI X49 hx (hb hby at_230) (pc' := 232) rfl rfl ?_
                            refine gIcmpNe X49 hx (hb hby at_232) (pc' := 239) (by decide) (by decide) (pn := 235) rfl (fun (c232 : ¬ (b2i (decide ((c0.toInt = 9 ∨ 32 ≤ c0.toInt ∧ c0.toInt ≠ 127) ∧ (c1.toInt = 9 ∨ 32 ≤ c1.toInt ∧ c1.toInt ≠ 127) ∧ (c2.toInt = 9 ∨ 32 ≤ c2.toInt ∧ c2.toInt ≠ 127) ∧ (c3.toInt = 9 ∨ 32 ≤ c3.toInt ∧ c3.toInt ≠ 127)))) = (0 : Int32)) => ?_) (fun (c232 : (b2i (decide ((c0.toInt = 9 ∨ 32 ≤ c0.toInt ∧ c0.toInt ≠ 127) ∧ (c1.toInt = 9 ∨ 32 ≤ c1.toInt ∧ c1.toInt ≠ 127) ∧ (c2.toInt = 9 ∨ 32 ≤ c2.toInt ∧ c2.toInt ≠ 127) ∧ (c3.toInt = 9 ∨ 32 ≤ c3.toInt ∧ c3.toInt ≠ 127)))) = (0 : Int32)) => ?_)
                            · exact absurd (b2_f (fun q => of_decide_eq_false (b2_0.mp c215) q.2.2.2)) c232
                            · refine gIconst X49 hx (v := (1 : Int32)) (hb hby at_235) (pc' := 236) rfl rfl ?_
                              refine gGoto X49 hx (hb hby at_236) (pc' := 240) (by decide) (by decide) ?_
                              exact gRetHN X49 hx hlk hret (by simp) (hb hby at_240) (w := (1 : Int32)) rfl e49 hS hk41 hZ hEL H41 (by decide) (by decide) (⟨rfl, N41⟩)
                          · refine gIconst X48 hx (v := (1 : Int32)) (hb hby at_218) (pc' := 219) rfl rfl ?_
                            refine gGoto X48 hx (hb hby at_219) (pc' := 223) (by decide) (by decide) ?_
                            refine gStoreI X48 hx (hb hby at_223) (l' := #[.val (.int p0), .val (.int p1), .val (.int p2), .val (.int p3), .val (.int p4), .val (.int (4 : Int32)), .val (.int c0), .val (.int c1), .val (.int c2), .val (.int c3), .val (.ref b35), .val (.ref b40), .val (.int (1 : Int32))]) (pc' := 225) rfl rfl ?_
                            refine gLoadA X48 hx (hb hby at_225) (pc' := 227) rfl rfl rfl ?_
                            refine gCallSJ X48 hx hZ (y := (⟨"com/example/anteroom/anteroom/HttpSyntax", "isFieldValue", "(Ljava/lang/String;)Z"⟩ : MethodName)) hown e48 (by rw [hml]; rfl) (hw _ (List.mem_of_getElem? (i := 23) rfl)) (hw _ (List.mem_of_getElem? (i := 24) rfl)) (hw _ (List.mem_of_getElem? (i := 25) rfl)) (hw _ (List.mem_of_getElem? (i := 26) rfl)) (by decide) (argsL := [(.ref b40)]) (st := []) (c_fv_4 l Z a0 hw b40 t41 ct41 c0 c1 c2 c3 _ f41_1 f41_0 Eq41 Cq41 Vq41 Aq41 hc0 hc1 hc2 hc3) (lenOf pd_8 rfl) (hb hby at_227) (pc' := 230) rfl rfl rfl rfl (by decide) (W := 0) (Nat.le_of_eq rfl) (by decide) (by decide) (by decide) ?_
                            intro T50 X50 e50
                            refine gLoadI X50 hx (hb hby at_230) (pc' := 232) rfl rfl ?_
                            refine gIcmpNe X50 hx (hb hby at_232) (pc' := 239) (by decide) (by decide) (pn := 235) rfl (fun (c232 : ¬ (b2i (decide ((c0.toInt = 9 ∨ 32 ≤ c0.toInt ∧ c0.toInt ≠ 127) ∧ (c1.toInt = 9 ∨ 32 ≤ c1.toInt ∧ c1.toInt ≠ 127) ∧ (c2.toInt = 9 ∨ 32 ≤ c2.toInt ∧ c2.toInt ≠ 127) ∧ (c3.toInt = 9 ∨ 32 ≤ c3.toInt ∧ c3.toInt ≠ 127)))) = (1 : Int32)) => ?_) (fun (c232 : (b2i (decide ((c0.toInt = 9 ∨ 32 ≤ c0.toInt ∧ c0.toInt ≠ 127) ∧ (c1.toInt = 9 ∨ 32 ≤ c1.toInt ∧ c1.toInt ≠ 127) ∧ (c2.toInt = 9 ∨ 32 ≤ c2.toInt ∧ c2.toInt ≠ 127) ∧ (c3.toInt = 9 ∨ 32 ≤ c3.toInt ∧ c3.toInt ≠ 127)))) = (1 : Int32)) => ?_)
                            · exact absurd (b2_t ⟨of_decide_eq_true (b2_n0.mp c173), of_decide_eq_true (b2_n0.mp c187), of_decide_eq_true (b2_n0.mp c201), of_decide_eq_true (b2_n0.mp c215)⟩) c232
                            · refine gIconst X50 hx (v := (1 : Int32)) (hb hby at_235) (pc' := 236) rfl rfl ?_
                              refine gGoto X50 hx (hb hby at_236) (pc' := 240) (by decide) (by decide) ?_
                              exact gRetHN X50 hx hlk hret (by simp) (hb hby at_240) (w := (1 : Int32)) rfl e50 hS hk41 hZ hEL H41 (by decide) (by decide) (⟨rfl, N41⟩)
          · exact absurd c100 (by decide)
        · exact absurd c76 (by decide)
      · exact absurd c57 (by decide)
    · exact absurd c43 (by decide)
theorem eq_v0 {args : Array Value} {s : State} {t : Term} {z k : Int32} (h : t.eval args s none [] s = some (.int z)) : (Jvm.Cond.eq t (.int k)).value args s none s [] = some (decide (z = k)) := by
  simp [Cond.value, h, Term.eval]
set_option maxRecDepth 65536 in
set_option maxHeartbeats 40000000 in
theorem comes_1 {Post : Tables → Env → Array Value → State → Outcome → State → Prop} (hpost : ∀ tb e args s v u, (limb_1_1.after args s (.returned v) u = true ∧ limb_1_2.after args s (.returned v) u = true ∧ True) → ReturnedEndW s (.returned v) u (Jvm.fieldLocs frame_1_writes args s ++ Jvm.arrayLocs frame_1_arrays args s ++ Jvm.staticLocs frame_1_statics s) 16 1152 → Post tb e args s (.returned v) u) :
    ArmFor flags0 classFile x code maxLocals ret World_1 tables_1 room_1 Calls_1 rest_1 Pre_1 Post := by
  intro l hfl _ _ p e ha hc hk s m args below hf hA hF happ hP
  obtain ⟨hcalls, hrest, hpre⟩ := hP
  obtain ⟨-, -, -, hnamed, -, -, -, hat⟩ := (Spec.applies_iff hf).mp happ
  obtain ⟨hg, hn⟩ := and_e (Cond.before_iff.mp (show (Jvm.Cond.and given_1 narrow_1).before args s = true from hpre))
  obtain ⟨hcount, hv⟩ := and_e hg
  obtain ⟨ha0, hv0⟩ := and_e hv
  obtain ⟨ha1, hv1⟩ := and_e hv0
  obtain ⟨ha2, hv2⟩ := and_e hv1
  obtain ⟨ha3, hv3⟩ := and_e hv2
  obtain ⟨w0, w1, w2, w3, w4, rfl⟩ : ∃ w0 w1 w2 w3 w4 : Value, args = #[w0, w1, w2, w3, w4] := by
    have hs : args.size = 5 := by simpa [Cond.value, given_1] using hcount
    obtain ⟨L⟩ := args
    match L, hs with
    | [w0, w1, w2, w3, w4], _ => exact ⟨w0, w1, w2, w3, w4, rfl⟩
  have hw := fun d (hd : d ∈ tables_1) => atoms_spec (ws := Jvm.Cond.code x code maxLocals ret :: tables_1) hat d (List.mem_cons_of_mem _ hd)
  have hfit : Fit s := fun {y c} hc i hi => by
    obtain ⟨ha, rfl⟩ := Array.getElem?_eq_some_iff.mp hc
    have q := List.all_eq_true.mp ((Array.all_eq_true_iff_forall_mem.mp hF) _ (Array.getElem_mem ha)) i (List.mem_range.mpr hi)
    simpa [Array.getElem?_eq_getElem hi] using q
  obtain ⟨i0, ei0⟩ := is_v ha0
  obtain rfl : w0 = (.int i0) := Option.some.inj ei0
  obtain ⟨i1, ei1⟩ := is_v ha1
  obtain rfl : w1 = (.int i1) := Option.some.inj ei1
  obtain ⟨i2, ei2⟩ := is_v ha2
  obtain rfl : w2 = (.int i2) := Option.some.inj ei2
  obtain ⟨i3, ei3⟩ := is_v ha3
  obtain rfl : w3 = (.int i3) := Option.some.inj ei3
  obtain ⟨i4, ei4⟩ := is_v hv3
  obtain rfl : w4 = (.int i4) := Option.some.inj ei4
  obtain ⟨hsets, hown0⟩ := atoms_of _ (rest_1_c_eq ▸ (show rest_1_c.before _ s = true from hrest))
  obtain ⟨cz, ecz⟩ := is_v (Cond.before_iff.mp (hsets _ (List.mem_of_getElem? (i := 1) rfl)))
  have SC := Sta.start ecz (Or.inl (hsets _ (List.mem_of_getElem? (i := 0) rfl)))
  have hnz := gotF (eq_v0 ecz (k := 0)) (not_v (Cond.before_iff.mp (hsets _ (List.mem_of_getElem? (i := 2) rfl))))
  have hCpt : Cpt s s.heap := ⟨cz, SC, fun q => hnz (Int32.toInt_inj.mp q)⟩
  obtain ⟨sf, esf, hsf⟩ := isR_v (Cond.before_iff.mp (hsets _ (List.mem_of_getElem? (i := 8) rfl)))
  have hSio : Sio s s.heap := ⟨sf, Sta.start esf (Or.inl (hsets _ (List.mem_of_getElem? (i := 7) rfl))), hsf⟩
  have hEL : EW s _ [("java/lang/String", 7)] := EW.cons (hw _ (List.mem_of_getElem? (i := 15) rfl)) (by decide) EW.nil
  have hcw : Jvm.Lit.compactW.before _ s = true := (hsets _ (List.mem_of_getElem? (i := 2) rfl))
  have hCH : CHv s [("java/lang/String", 7)] s.vm s.heap := CHv.start hEL (fun p hp => hcalls.1 p hp) hcw (hw _ (List.mem_of_getElem? (i := 16) rfl)) (hw _ (List.mem_of_getElem? (i := 3) rfl))
  obtain ⟨n, o, h1, h2, h3, _, L, rfl, ⟨rfl, N⟩, hCH, hq⟩ := c_law l s _ hw i0 i1 i2 i3 i4 s.heap hEL hCpt hSio p e ha hc hk s m _ below hf ((Spec.applies_iff_loose hf).mp happ).1 ⟨rfl, State.Warmed39.refl s, rfl, hCH, fun _ q => nomatch q⟩ trivial
  refine ⟨n, _, h1, h2, h3, hpost _ _ _ _ _ _ ⟨Cond.after_iff.mpr rfl, Cond.after_iff.mpr (eq_i res_at (Term.int_eval (1)) rfl), trivial⟩ ⟨hq.1, hq.2.1, hq.2.2.1, (hq.2.2.2.sift fun y hy => Or.inr (N y hy)).mono (by decide) (by decide)⟩⟩
theorem main_1_1 : Claimed_1_1 := comes_1 fun _ _ _ _ _ _ h hF => ⟨h.1, hF⟩
theorem main_1_2 : Claimed_1_2 := comes_1 fun _ _ _ _ _ _ h hF => ⟨h.2.1, hF⟩
end Jvm.Pilot.@@N@@
namespace Jvm.Pilot.@@N@@
open Jvm Jvm.ClassFile Sem Op Lib Jvm.Free Jvm.Stand Jvm.Pilot.@@N@@.Jvm.D
/-! MADE BY PROGRAM (witnessworld.py) out of the Statement's table words and the real class files: 20 classes; the members and pool entries that the words name. The judged class is class 1, her method 2. -/
namespace start1
open Jvm.ClassFile
def u (s : String) : CpInfo := .utf8 (stringToUtf16 s)
/-- a pool by its gaps: so many unusable entries, then the entry; so many at the end -/
def gap : Nat → List CpInfo → List CpInfo
  | 0, r => r
  | n + 1, r => .unusable :: gap n r
def poolList (es : List (Nat × CpInfo)) (last : Nat) : List CpInfo := es.foldr (fun e r => gap e.1 (e.2 :: r)) (gap last [])
def pool (es : List (Nat × CpInfo)) (last : Nat) : Array CpInfo := ⟨poolList es last⟩
def fileOf (pool : Array CpInfo) (this : Nat) (attrs : Array Attribute := #[]) (ms : Array MethodInfo := #[]) (fl : Nat := 33) (sup : Nat := 0) (ifs : Array Nat := #[]) (fds : Array FieldInfo := #[]) : ClassFile where
  minorVersion := 0
  majorVersion := 65
  constantPool := pool
  accessFlags := fl
  thisClass := this
  superClass := sup
  interfaces := ifs
  fields := fds
  methods := ms
  attributes := attrs
def plain (name : String) (sup : Option ClassId) : Class where
  name := name
  kind := .ordinary
  loader := none
  accessFlags := 33
  super := sup
  interfaces := #[]
  cf := none
  fields := #[]
  methods := #[]
  instanceTypes := #[]
  staticTypes := #[]
  resolved := #[]
  callSites := []
  init := .initialized
  statics := none
  mirror := none

def pool0 : Array CpInfo := pool [(5, u "<init>"), (0, u "()V"), (1, .class_ 10), (1, u "java/lang/Object")] 113

def k0c0 : Code := { maxStack := 0, maxLocals := 1, code := object_method_1_code, exceptionTable := #[], attributes := #[] }
def k0m0 : Method := { name := "<init>", desc := "()V", sig := { parameters := [], returnType := none }, accessFlags := 1, code := some k0c0 }
/-- java/lang/Object -/
def k0 : Class := { plain "java/lang/Object" none with
  accessFlags := 33
  interfaces := #[]
  cf := some (fileOf pool0 8 #[] #[{ accessFlags := 1, nameIndex := 5, descriptorIndex := 6, attributes := #[] }] 33 0 #[] #[])
  fields := #[]
  methods := #[k0m0]
  instanceTypes := #[]
  staticTypes := #[]
  resolved := Array.replicate 124 none
  statics := none }

def pool1 : Array CpInfo := pool [(2, .class_ 4), (1, u "java/lang/Object"), (0, u "<init>"), (0, u "()V"), (0, .integer 2147483647), (0, .class_ 9), (0, u "java/lang/String"), (0, .methodref 8 11), (0, .nameAndType 5 12), (0, u "([C)V"), (0, .methodref 14 15), (0, .class_ 16), (0, .nameAndType 17 18), (0, u "com/example/anteroom/anteroom/HttpSyntaxIsFieldValuePinLaw"), (0, u "ok"), (0, u "(C)Z"), (0, .methodref 20 21), (0, .class_ 22), (0, .nameAndType 23 24), (0, u "com/example/anteroom/anteroom/HttpSyntax"), (0, u "isFieldValue"), (0, u "(Ljava/lang/String;)Z"), (3, u "law"), (0, u "(IIIII)Z")] 4

def k1m0 : Method := { name := "<init>", desc := "()V", sig := { parameters := [], returnType := none }, accessFlags := 2, code := none }
def k1c1 : Code := { maxStack := 2, maxLocals := 1, code := method_2_code, exceptionTable := #[], attributes := #[] }
def k1m1 : Method := { name := "ok", desc := "(C)Z", sig := { parameters := [.char], returnType := some .boolean }, accessFlags := 10, code := some k1c1 }
def k1c2 : Code := { maxStack := 4, maxLocals := 13, code := code, exceptionTable := #[], attributes := #[] }
def k1m2 : Method := { name := "law", desc := "(IIIII)Z", sig := { parameters := [.int, .int, .int, .int, .int], returnType := some .boolean }, accessFlags := 9, code := some k1c2 }
/-- com/example/anteroom/anteroom/HttpSyntaxIsFieldValuePinLaw -/
def k1 : Class := { plain "com/example/anteroom/anteroom/HttpSyntaxIsFieldValuePinLaw" (some 0) with
  accessFlags := 49
  interfaces := #[]
  cf := some (fileOf pool1 14 #[] #[{ accessFlags := 2, nameIndex := 5, descriptorIndex := 6, attributes := #[] }, { accessFlags := 10, nameIndex := 17, descriptorIndex := 18, attributes := #[] }, { accessFlags := 9, nameIndex := 28, descriptorIndex := 29, attributes := #[] }] 49 2 #[] #[])
  fields := #[]
  methods := #[k1m0, k1m1, k1m2]
  instanceTypes := #[]
  staticTypes := #[]
  resolved := Array.replicate 34 none
  statics := none }

def pool2 : Array CpInfo := pool [(1, .class_ 2), (0, u "java/io/Serializable"), (0, .class_ 4), (0, u "java/lang/Object")] 2

/-- java/io/Serializable -/
def k2 : Class := { plain "java/io/Serializable" (some 0) with
  accessFlags := 1537
  interfaces := #[]
  cf := some (fileOf pool2 1 #[] #[] 1537 3 #[] #[])
  fields := #[]
  methods := #[]
  instanceTypes := #[]
  staticTypes := #[]
  resolved := Array.replicate 7 none
  statics := none }

def pool3 : Array CpInfo := pool [(1, .class_ 2), (0, u "java/lang/Comparable"), (0, .class_ 4), (0, u "java/lang/Object")] 7

/-- java/lang/Comparable -/
def k3 : Class := { plain "java/lang/Comparable" (some 0) with
  accessFlags := 1537
  interfaces := #[]
  cf := some (fileOf pool3 1 #[] #[] 1537 3 #[] #[])
  fields := #[]
  methods := #[]
  instanceTypes := #[]
  staticTypes := #[]
  resolved := Array.replicate 12 none
  statics := none }

def pool4 : Array CpInfo := pool [(2, .class_ 4), (1, u "java/lang/CharSequence"), (42, .class_ 48), (0, u "java/lang/CharSequence$1CodePointIterator"), (10, .class_ 60), (0, u "java/lang/CharSequence$1CharIterator"), (5, .class_ 67), (0, u "java/lang/Object")] 63

/-- java/lang/CharSequence -/
def k4 : Class := { plain "java/lang/CharSequence" (some 0) with
  accessFlags := 1537
  interfaces := #[]
  cf := some (fileOf pool4 2 #[.nestMembers #[47, 59]] #[] 1537 66 #[] #[])
  fields := #[]
  methods := #[]
  instanceTypes := #[]
  staticTypes := #[]
  resolved := Array.replicate 131 none
  statics := none }

def pool5 : Array CpInfo := pool [(1, .class_ 2), (0, u "java/lang/constant/Constable"), (0, .class_ 4), (0, u "java/lang/Object")] 6

/-- java/lang/constant/Constable -/
def k5 : Class := { plain "java/lang/constant/Constable" (some 0) with
  accessFlags := 1537
  interfaces := #[]
  cf := some (fileOf pool5 1 #[] #[] 1537 3 #[] #[])
  fields := #[]
  methods := #[]
  instanceTypes := #[]
  staticTypes := #[]
  resolved := Array.replicate 11 none
  statics := none }

def pool6 : Array CpInfo := pool [(1, .class_ 2), (0, u "java/lang/constant/ConstantDesc"), (0, .class_ 4), (0, u "java/lang/Object")] 32

/-- java/lang/constant/ConstantDesc -/
def k6 : Class := { plain "java/lang/constant/ConstantDesc" (some 0) with
  accessFlags := 1537
  interfaces := #[]
  cf := some (fileOf pool6 1 #[] #[] 1537 3 #[] #[])
  fields := #[]
  methods := #[]
  instanceTypes := #[]
  staticTypes := #[]
  resolved := Array.replicate 37 none
  statics := none }

def pool7 : Array CpInfo := pool [(1, .methodref 2 3), (0, .class_ 4), (0, .nameAndType 5 6), (0, u "java/lang/Object"), (0, u "<init>"), (0, u "()V"), (0, .string 8), (0, u ""), (0, .fieldref 10 11), (0, .class_ 12), (0, .nameAndType 13 14), (0, u "java/lang/String"), (0, u "value"), (0, u "[B"), (0, .fieldref 10 16), (0, .nameAndType 17 18), (0, u "coder"), (0, u "B"), (2, u "hash"), (0, u "I"), (2, u "hashIsZero"), (0, u "Z"), (0, .methodref 10 28), (0, .nameAndType 5 29), (0, u "([CIILjava/lang/Void;)V"), (8, .fieldref 10 39), (0, .nameAndType 40 26), (0, u "COMPACT_STRINGS"), (1, .class_ 44), (1, u "java/lang/StringUTF16"), (0, u "compress"), (1, .methodref 42 48), (0, .nameAndType 49 50), (0, u "coderFromArrayLen"), (0, u "([BI)B"), (56, .class_ 109), (1, u "java/lang/StringLatin1"), (32, u "()Z"), (34, .methodref 42 178), (0, .nameAndType 45 179), (0, u "([CII)[B"), (154, u "()I"), (0, .methodref 10 336), (0, .nameAndType 17 337), (0, u "()B"), (25, u "([BI)C"), (27, u "(II)V"), (35, u "(I)C"), (64, .methodref 10 493), (0, .nameAndType 494 142), (0, u "isLatin1"), (0, .methodref 107 496), (0, .nameAndType 497 363), (0, u "charAt"), (3, u "checkIndex"), (5, u "length"), (67, .class_ 576), (0, u "java/lang/CharSequence"), (22, u "CASE_INSENSITIVE_ORDER"), (0, u "Ljava/util/Comparator;"), (409, u "([C)V"), (42, .fieldref 1054 1055), (0, .class_ 1056), (0, .nameAndType 1057 1058), (0, u "jdk/internal/util/Preconditions"), (0, u "SIOOBE_FORMATTER"), (0, u "Ljava/util/function/BiFunction;"), (0, .methodref 1054 1060), (0, .nameAndType 501 1061), (0, u "(IILjava/util/function/BiFunction;)I"), (39, u "serialPersistentFields"), (0, u "[Ljava/io/ObjectStreamField;"), (0, .class_ 1104), (0, u "java/lang/String$CaseInsensitiveComparator"), (1, .class_ 1107), (0, u "java/io/Serializable"), (0, .class_ 1109), (0, u "java/lang/Comparable"), (0, .class_ 1111), (0, u "java/lang/constant/Constable"), (0, .class_ 1113), (0, u "java/lang/constant/ConstantDesc"), (2, u "serialVersionUID"), (0, u "J"), (3, u "REPL"), (0, u "C"), (2, u "LATIN1"), (1, u "UTF16")] 323

def k7m0 : Method := { name := "<init>", desc := "()V", sig := { parameters := [], returnType := none }, accessFlags := 1, code := none }
def k7c1 : Code := { maxStack := 5, maxLocals := 2, code := jdk_42_method_3_code, exceptionTable := #[], attributes := #[] }
def k7m1 : Method := { name := "<init>", desc := "([C)V", sig := { parameters := [(.array .char)], returnType := none }, accessFlags := 1, code := some k7c1 }
def k7c2 : Code := { maxStack := 2, maxLocals := 1, code := jdk_42_method_54_code, exceptionTable := #[], attributes := #[] }
def k7m2 : Method := { name := "length", desc := "()I", sig := { parameters := [], returnType := some .int }, accessFlags := 1, code := some k7c2 }
def k7c3 : Code := { maxStack := 2, maxLocals := 2, code := jdk_42_method_56_code, exceptionTable := #[], attributes := #[] }
def k7m3 : Method := { name := "charAt", desc := "(I)C", sig := { parameters := [.int], returnType := some .char }, accessFlags := 1, code := some k7c3 }
def k7c4 : Code := { maxStack := 4, maxLocals := 6, code := jdk_42_method_149_code, exceptionTable := #[], attributes := #[] }
def k7m4 : Method := { name := "<init>", desc := "([CIILjava/lang/Void;)V", sig := { parameters := [(.array .char), .int, .int, (.object "java/lang/Void")], returnType := none }, accessFlags := 2, code := some k7c4 }
def k7c5 : Code := { maxStack := 1, maxLocals := 1, code := jdk_42_method_152_code, exceptionTable := #[], attributes := #[] }
def k7m5 : Method := { name := "coder", desc := "()B", sig := { parameters := [], returnType := some .byte }, accessFlags := 0, code := some k7c5 }
def k7c6 : Code := { maxStack := 1, maxLocals := 1, code := jdk_42_method_154_code, exceptionTable := #[], attributes := #[] }
def k7m6 : Method := { name := "isLatin1", desc := "()Z", sig := { parameters := [], returnType := some .boolean }, accessFlags := 0, code := some k7c6 }
def k7c7 : Code := { maxStack := 3, maxLocals := 2, code := jdk_42_method_155_code, exceptionTable := #[], attributes := #[] }
def k7m7 : Method := { name := "checkIndex", desc := "(II)V", sig := { parameters := [.int, .int], returnType := none }, accessFlags := 8, code := some k7c7 }
/-- java/lang/String -/
def k7 : Class := { plain "java/lang/String" (some 0) with
  accessFlags := 49
  interfaces := #[2, 3, 4, 5, 6]
  cf := some (fileOf pool7 10 #[.nestMembers #[1103]] #[{ accessFlags := 1, nameIndex := 5, descriptorIndex := 6, attributes := #[] }, { accessFlags := 1, nameIndex := 5, descriptorIndex := 1010, attributes := #[] }, { accessFlags := 1, nameIndex := 507, descriptorIndex := 334, attributes := #[] }, { accessFlags := 1, nameIndex := 497, descriptorIndex := 427, attributes := #[] }, { accessFlags := 2, nameIndex := 5, descriptorIndex := 29, attributes := #[] }, { accessFlags := 0, nameIndex := 17, descriptorIndex := 337, attributes := #[] }, { accessFlags := 0, nameIndex := 494, descriptorIndex := 142, attributes := #[] }, { accessFlags := 8, nameIndex := 501, descriptorIndex := 391, attributes := #[] }] 49 2 #[1106, 1108, 575, 1110, 1112] #[{ accessFlags := 18, nameIndex := 13, descriptorIndex := 14, attributes := #[] }, { accessFlags := 18, nameIndex := 17, descriptorIndex := 18, attributes := #[] }, { accessFlags := 2, nameIndex := 21, descriptorIndex := 22, attributes := #[] }, { accessFlags := 2, nameIndex := 25, descriptorIndex := 26, attributes := #[] }, { accessFlags := 26, nameIndex := 1116, descriptorIndex := 1117, attributes := #[] }, { accessFlags := 24, nameIndex := 40, descriptorIndex := 26, attributes := #[] }, { accessFlags := 26, nameIndex := 1101, descriptorIndex := 1102, attributes := #[] }, { accessFlags := 26, nameIndex := 1121, descriptorIndex := 1122, attributes := #[] }, { accessFlags := 25, nameIndex := 599, descriptorIndex := 600, attributes := #[] }, { accessFlags := 24, nameIndex := 1125, descriptorIndex := 18, attributes := #[] }, { accessFlags := 24, nameIndex := 1127, descriptorIndex := 18, attributes := #[] }])
  fields := #[{ name := "value", type := (.array .byte), accessFlags := 18, slot := 0, constantValue := 0 }, { name := "coder", type := .byte, accessFlags := 18, slot := 1, constantValue := 0 }, { name := "hash", type := .int, accessFlags := 2, slot := 2, constantValue := 0 }, { name := "hashIsZero", type := .boolean, accessFlags := 2, slot := 3, constantValue := 0 }, { name := "serialVersionUID", type := .long, accessFlags := 26, slot := 0, constantValue := 0 }, { name := "COMPACT_STRINGS", type := .boolean, accessFlags := 24, slot := 1, constantValue := 0 }, { name := "serialPersistentFields", type := (.array (.object "java/io/ObjectStreamField")), accessFlags := 26, slot := 2, constantValue := 0 }, { name := "REPL", type := .char, accessFlags := 26, slot := 3, constantValue := 0 }, { name := "CASE_INSENSITIVE_ORDER", type := (.object "java/util/Comparator"), accessFlags := 25, slot := 4, constantValue := 0 }, { name := "LATIN1", type := .byte, accessFlags := 24, slot := 5, constantValue := 0 }, { name := "UTF16", type := .byte, accessFlags := 24, slot := 6, constantValue := 0 }]
  methods := #[k7m0, k7m1, k7m2, k7m3, k7m4, k7m5, k7m6, k7m7]
  instanceTypes := #[(.array .byte), .byte, .int, .boolean]
  staticTypes := #[.long, .boolean, (.array (.object "java/io/ObjectStreamField")), .char, (.object "java/util/Comparator"), .byte, .byte]
  resolved := Array.replicate 1451 none
  statics := some 0 }

def pool8 : Array CpInfo := pool [(2, .class_ 4), (1, u "java/lang/Object"), (0, u "<init>"), (0, u "()V"), (3, .class_ 12), (1, u "java/lang/String"), (1, u "(Ljava/lang/String;)Z"), (1, .class_ 18), (1, u "com/example/anteroom/anteroom/HttpSyntax"), (11, .methodref 10 31), (0, .nameAndType 32 33), (0, u "length"), (0, u "()I"), (0, .methodref 10 35), (0, .nameAndType 36 37), (0, u "charAt"), (0, u "(I)C"), (87, u "HEX_DIGITS"), (0, u "[C"), (9, u "TOKEN_SYMBOLS"), (0, u "Ljava/lang/String;"), (1, u "DROPPED_FROM_PATHS"), (0, u "SEGMENT_ENDS"), (0, u "ENCODED_IN_PATHS"), (6, u "isFieldValue")] 19

def k8m0 : Method := { name := "<init>", desc := "()V", sig := { parameters := [], returnType := none }, accessFlags := 2, code := none }
def k8c1 : Code := { maxStack := 2, maxLocals := 4, code := prog_7_method_12_code, exceptionTable := #[], attributes := #[] }
def k8m1 : Method := { name := "isFieldValue", desc := "(Ljava/lang/String;)Z", sig := { parameters := [(.object "java/lang/String")], returnType := some .boolean }, accessFlags := 8, code := some k8c1 }
/-- com/example/anteroom/anteroom/HttpSyntax -/
def k8 : Class := { plain "com/example/anteroom/anteroom/HttpSyntax" (some 0) with
  accessFlags := 48
  interfaces := #[]
  cf := some (fileOf pool8 16 #[] #[{ accessFlags := 2, nameIndex := 5, descriptorIndex := 6, attributes := #[] }, { accessFlags := 8, nameIndex := 148, descriptorIndex := 14, attributes := #[] }] 48 2 #[] #[{ accessFlags := 26, nameIndex := 136, descriptorIndex := 137, attributes := #[] }, { accessFlags := 26, nameIndex := 139, descriptorIndex := 137, attributes := #[] }, { accessFlags := 26, nameIndex := 140, descriptorIndex := 137, attributes := #[] }, { accessFlags := 26, nameIndex := 141, descriptorIndex := 137, attributes := #[] }, { accessFlags := 26, nameIndex := 125, descriptorIndex := 126, attributes := #[] }])
  fields := #[{ name := "TOKEN_SYMBOLS", type := (.object "java/lang/String"), accessFlags := 26, slot := 0, constantValue := 0 }, { name := "DROPPED_FROM_PATHS", type := (.object "java/lang/String"), accessFlags := 26, slot := 1, constantValue := 0 }, { name := "SEGMENT_ENDS", type := (.object "java/lang/String"), accessFlags := 26, slot := 2, constantValue := 0 }, { name := "ENCODED_IN_PATHS", type := (.object "java/lang/String"), accessFlags := 26, slot := 3, constantValue := 0 }, { name := "HEX_DIGITS", type := (.array .char), accessFlags := 26, slot := 4, constantValue := 0 }]
  methods := #[k8m0, k8m1]
  instanceTypes := #[]
  staticTypes := #[(.object "java/lang/String"), (.object "java/lang/String"), (.object "java/lang/String"), (.object "java/lang/String"), (.array .char)]
  resolved := Array.replicate 168 none
  statics := none }

def pool9 : Array CpInfo := pool [(6, .class_ 8), (1, u "java/lang/Object"), (0, u "<init>"), (0, u "()V"), (1, .class_ 14), (1, u "java/lang/StringUTF16"), (31, u "$assertionsDisabled"), (0, u "Z"), (13, u "HI_BYTE_SHIFT"), (0, u "I"), (2, u "LO_BYTE_SHIFT"), (49, .methodref 12 116), (0, .nameAndType 117 118), (0, u "compress"), (0, u "([CI[BII)I"), (3, u "([CII)[B"), (138, u "coderFromArrayLen"), (0, u "([BI)B"), (106, .class_ 371), (1, u "java/lang/StringUTF16$LinesSpliterator"), (58, u "MAX_LENGTH"), (196, .class_ 628), (0, u "java/lang/StringUTF16$CodePointsSpliterator"), (0, .class_ 630), (0, u "java/lang/StringUTF16$CharsSpliterator")] 4

def k9m0 : Method := { name := "<init>", desc := "()V", sig := { parameters := [], returnType := none }, accessFlags := 0, code := none }
def k9c1 : Code := { maxStack := 2, maxLocals := 2, code := jdk_52_method_15_code, exceptionTable := #[], attributes := #[] }
def k9m1 : Method := { name := "coderFromArrayLen", desc := "([BI)B", sig := { parameters := [(.array .byte), .int], returnType := some .byte }, accessFlags := 8, code := some k9c1 }
def k9c2 : Code := { maxStack := 5, maxLocals := 6, code := jdk_52_method_16_code, exceptionTable := #[], attributes := #[] }
def k9m2 : Method := { name := "compress", desc := "([CII)[B", sig := { parameters := [(.array .char), .int, .int], returnType := some (.array .byte) }, accessFlags := 9, code := some k9c2 }
def k9c3 : Code := { maxStack := 3, maxLocals := 7, code := jdk_52_method_21_code, exceptionTable := #[], attributes := #[] }
def k9m3 : Method := { name := "compress", desc := "([CI[BII)I", sig := { parameters := [(.array .char), .int, (.array .byte), .int, .int], returnType := some .int }, accessFlags := 9, code := some k9c3 }
/-- java/lang/StringUTF16 -/
def k9 : Class := { plain "java/lang/StringUTF16" (some 0) with
  accessFlags := 48
  interfaces := #[]
  cf := some (fileOf pool9 12 #[.nestMembers #[627, 629, 369]] #[{ accessFlags := 0, nameIndex := 9, descriptorIndex := 10, attributes := #[] }, { accessFlags := 8, nameIndex := 261, descriptorIndex := 262, attributes := #[] }, { accessFlags := 9, nameIndex := 117, descriptorIndex := 122, attributes := #[] }, { accessFlags := 9, nameIndex := 117, descriptorIndex := 118, attributes := #[] }] 48 6 #[] #[{ accessFlags := 26, nameIndex := 61, descriptorIndex := 62, attributes := #[] }, { accessFlags := 26, nameIndex := 65, descriptorIndex := 62, attributes := #[] }, { accessFlags := 24, nameIndex := 430, descriptorIndex := 62, attributes := #[] }, { accessFlags := 4120, nameIndex := 46, descriptorIndex := 47, attributes := #[] }])
  fields := #[{ name := "HI_BYTE_SHIFT", type := .int, accessFlags := 26, slot := 0, constantValue := 0 }, { name := "LO_BYTE_SHIFT", type := .int, accessFlags := 26, slot := 1, constantValue := 0 }, { name := "MAX_LENGTH", type := .int, accessFlags := 24, slot := 2, constantValue := 0 }, { name := "$assertionsDisabled", type := .boolean, accessFlags := 4120, slot := 3, constantValue := 0 }]
  methods := #[k9m0, k9m1, k9m2, k9m3]
  instanceTypes := #[]
  staticTypes := #[.int, .int, .int, .boolean]
  resolved := Array.replicate 635 none
  statics := none }

def pool10 : Array CpInfo := pool [(1, .class_ 2), (0, u "java/lang/String"), (1, .class_ 6), (1, u "java/lang/Object"), (0, u "<init>"), (0, u "()V"), (0, .methodref 1 10), (0, .nameAndType 11 12), (0, u "checkIndex"), (0, u "(II)V"), (1, .class_ 16), (1, u "java/lang/StringLatin1"), (36, u "([BI)C"), (67, u "$assertionsDisabled"), (0, u "Z"), (98, .class_ 223), (1, u "java/lang/StringLatin1$LinesSpliterator"), (28, u "charAt"), (137, .class_ 391), (0, u "java/lang/StringLatin1$CharsSpliterator")] 3

def k10m0 : Method := { name := "<init>", desc := "()V", sig := { parameters := [], returnType := none }, accessFlags := 0, code := none }
def k10c1 : Code := { maxStack := 2, maxLocals := 2, code := jdk_43_method_2_code, exceptionTable := #[], attributes := #[] }
def k10m1 : Method := { name := "charAt", desc := "([BI)C", sig := { parameters := [(.array .byte), .int], returnType := some .char }, accessFlags := 9, code := some k10c1 }
/-- java/lang/StringLatin1 -/
def k10 : Class := { plain "java/lang/StringLatin1" (some 0) with
  accessFlags := 48
  interfaces := #[]
  cf := some (fileOf pool10 14 #[.nestMembers #[390, 221]] #[{ accessFlags := 0, nameIndex := 7, descriptorIndex := 8, attributes := #[] }, { accessFlags := 9, nameIndex := 252, descriptorIndex := 53, attributes := #[] }] 48 4 #[] #[{ accessFlags := 4120, nameIndex := 121, descriptorIndex := 122, attributes := #[] }])
  fields := #[{ name := "$assertionsDisabled", type := .boolean, accessFlags := 4120, slot := 0, constantValue := 0 }]
  methods := #[k10m0, k10m1]
  instanceTypes := #[]
  staticTypes := #[.boolean]
  resolved := Array.replicate 395 none
  statics := none }

def pool11 : Array CpInfo := pool [(2, .class_ 4), (1, u "java/lang/Object"), (0, u "<init>"), (0, u "()V"), (17, .class_ 26), (1, u "jdk/internal/util/Preconditions"), (6, u "checkIndex"), (21, .class_ 56), (0, u "jdk/internal/util/Preconditions$4"), (57, .class_ 115), (0, u "jdk/internal/util/Preconditions$1"), (7, u "SIOOBE_FORMATTER"), (0, u "Ljava/util/function/BiFunction;"), (0, .class_ 126), (0, u "jdk/internal/util/Preconditions$2"), (3, u "AIOOBE_FORMATTER"), (0, .class_ 132), (0, u "jdk/internal/util/Preconditions$3"), (3, u "IOOBE_FORMATTER"), (41, u "(IILjava/util/function/BiFunction;)I")] 15

def k11m0 : Method := { name := "<init>", desc := "()V", sig := { parameters := [], returnType := none }, accessFlags := 1, code := none }
def k11c1 : Code := { maxStack := 3, maxLocals := 3, code := jdk_41_method_11_code, exceptionTable := #[], attributes := #[] }
def k11m1 : Method := { name := "checkIndex", desc := "(IILjava/util/function/BiFunction;)I", sig := { parameters := [.int, .int, (.object "java/util/function/BiFunction")], returnType := some .int }, accessFlags := 9, code := some k11c1 }
/-- jdk/internal/util/Preconditions -/
def k11 : Class := { plain "jdk/internal/util/Preconditions" (some 0) with
  accessFlags := 33
  interfaces := #[]
  cf := some (fileOf pool11 24 #[.nestMembers #[55, 131, 125, 114]] #[{ accessFlags := 1, nameIndex := 5, descriptorIndex := 6, attributes := #[] }, { accessFlags := 9, nameIndex := 33, descriptorIndex := 178, attributes := #[] }] 33 2 #[] #[{ accessFlags := 25, nameIndex := 123, descriptorIndex := 124, attributes := #[] }, { accessFlags := 25, nameIndex := 130, descriptorIndex := 124, attributes := #[] }, { accessFlags := 25, nameIndex := 136, descriptorIndex := 124, attributes := #[] }])
  fields := #[{ name := "SIOOBE_FORMATTER", type := (.object "java/util/function/BiFunction"), accessFlags := 25, slot := 0, constantValue := 0 }, { name := "AIOOBE_FORMATTER", type := (.object "java/util/function/BiFunction"), accessFlags := 25, slot := 1, constantValue := 0 }, { name := "IOOBE_FORMATTER", type := (.object "java/util/function/BiFunction"), accessFlags := 25, slot := 2, constantValue := 0 }]
  methods := #[k11m0, k11m1]
  instanceTypes := #[]
  staticTypes := #[(.object "java/util/function/BiFunction"), (.object "java/util/function/BiFunction"), (.object "java/util/function/BiFunction")]
  resolved := Array.replicate 194 none
  statics := some 1 }

def pool12 : Array CpInfo := pool [(9, u "<init>"), (6, .class_ 18), (1, u "java/lang/Object"), (0, u "()V"), (1, .class_ 23), (1, u "jdk/internal/util/ArraysSupport"), (0, u "LOG2_ARRAY_LONG_INDEX_SCALE"), (0, u "I"), (2, u "U"), (0, u "Ljdk/internal/misc/Unsafe;"), (8, u "BIG_ENDIAN"), (0, u "Z"), (8, u "LOG2_BYTE_BIT_SIZE"), (4, u "LOG2_ARRAY_INT_INDEX_SCALE"), (54, u "JLA"), (0, u "Ljdk/internal/access/JavaLangAccess;"), (11, u "LOG2_ARRAY_BOOLEAN_INDEX_SCALE"), (9, u "LOG2_ARRAY_BYTE_INDEX_SCALE"), (5, u "LOG2_ARRAY_CHAR_INDEX_SCALE"), (5, u "LOG2_ARRAY_SHORT_INDEX_SCALE"), (18, u "LOG2_ARRAY_FLOAT_INDEX_SCALE"), (24, u "LOG2_ARRAY_DOUBLE_INDEX_SCALE"), (89, u "T_BOOLEAN"), (2, u "T_CHAR"), (1, u "T_FLOAT"), (1, u "T_DOUBLE"), (1, u "T_BYTE"), (1, u "T_SHORT"), (1, u "T_INT"), (1, u "T_LONG"), (1, u "SOFT_MAX_ARRAY_LENGTH")] 83

def k12m0 : Method := { name := "<init>", desc := "()V", sig := { parameters := [], returnType := none }, accessFlags := 2, code := none }
/-- jdk/internal/util/ArraysSupport -/
def k12 : Class := { plain "jdk/internal/util/ArraysSupport" (some 0) with
  accessFlags := 33
  interfaces := #[]
  cf := some (fileOf pool12 21 #[] #[{ accessFlags := 2, nameIndex := 9, descriptorIndex := 19, attributes := #[] }] 33 16 #[] #[{ accessFlags := 24, nameIndex := 28, descriptorIndex := 29, attributes := #[] }, { accessFlags := 26, nameIndex := 38, descriptorIndex := 39, attributes := #[] }, { accessFlags := 25, nameIndex := 121, descriptorIndex := 25, attributes := #[] }, { accessFlags := 25, nameIndex := 131, descriptorIndex := 25, attributes := #[] }, { accessFlags := 25, nameIndex := 137, descriptorIndex := 25, attributes := #[] }, { accessFlags := 25, nameIndex := 143, descriptorIndex := 25, attributes := #[] }, { accessFlags := 25, nameIndex := 53, descriptorIndex := 25, attributes := #[] }, { accessFlags := 25, nameIndex := 24, descriptorIndex := 25, attributes := #[] }, { accessFlags := 25, nameIndex := 162, descriptorIndex := 25, attributes := #[] }, { accessFlags := 25, nameIndex := 187, descriptorIndex := 25, attributes := #[] }, { accessFlags := 26, nameIndex := 48, descriptorIndex := 25, attributes := #[] }, { accessFlags := 25, nameIndex := 277, descriptorIndex := 25, attributes := #[] }, { accessFlags := 25, nameIndex := 280, descriptorIndex := 25, attributes := #[] }, { accessFlags := 25, nameIndex := 282, descriptorIndex := 25, attributes := #[] }, { accessFlags := 25, nameIndex := 284, descriptorIndex := 25, attributes := #[] }, { accessFlags := 25, nameIndex := 286, descriptorIndex := 25, attributes := #[] }, { accessFlags := 25, nameIndex := 288, descriptorIndex := 25, attributes := #[] }, { accessFlags := 25, nameIndex := 290, descriptorIndex := 25, attributes := #[] }, { accessFlags := 25, nameIndex := 292, descriptorIndex := 25, attributes := #[] }, { accessFlags := 26, nameIndex := 108, descriptorIndex := 109, attributes := #[] }, { accessFlags := 25, nameIndex := 294, descriptorIndex := 25, attributes := #[] }])
  fields := #[{ name := "U", type := (.object "jdk/internal/misc/Unsafe"), accessFlags := 24, slot := 0, constantValue := 0 }, { name := "BIG_ENDIAN", type := .boolean, accessFlags := 26, slot := 1, constantValue := 0 }, { name := "LOG2_ARRAY_BOOLEAN_INDEX_SCALE", type := .int, accessFlags := 25, slot := 2, constantValue := 0 }, { name := "LOG2_ARRAY_BYTE_INDEX_SCALE", type := .int, accessFlags := 25, slot := 3, constantValue := 0 }, { name := "LOG2_ARRAY_CHAR_INDEX_SCALE", type := .int, accessFlags := 25, slot := 4, constantValue := 0 }, { name := "LOG2_ARRAY_SHORT_INDEX_SCALE", type := .int, accessFlags := 25, slot := 5, constantValue := 0 }, { name := "LOG2_ARRAY_INT_INDEX_SCALE", type := .int, accessFlags := 25, slot := 6, constantValue := 0 }, { name := "LOG2_ARRAY_LONG_INDEX_SCALE", type := .int, accessFlags := 25, slot := 7, constantValue := 0 }, { name := "LOG2_ARRAY_FLOAT_INDEX_SCALE", type := .int, accessFlags := 25, slot := 8, constantValue := 0 }, { name := "LOG2_ARRAY_DOUBLE_INDEX_SCALE", type := .int, accessFlags := 25, slot := 9, constantValue := 0 }, { name := "LOG2_BYTE_BIT_SIZE", type := .int, accessFlags := 26, slot := 10, constantValue := 0 }, { name := "T_BOOLEAN", type := .int, accessFlags := 25, slot := 11, constantValue := 0 }, { name := "T_CHAR", type := .int, accessFlags := 25, slot := 12, constantValue := 0 }, { name := "T_FLOAT", type := .int, accessFlags := 25, slot := 13, constantValue := 0 }, { name := "T_DOUBLE", type := .int, accessFlags := 25, slot := 14, constantValue := 0 }, { name := "T_BYTE", type := .int, accessFlags := 25, slot := 15, constantValue := 0 }, { name := "T_SHORT", type := .int, accessFlags := 25, slot := 16, constantValue := 0 }, { name := "T_INT", type := .int, accessFlags := 25, slot := 17, constantValue := 0 }, { name := "T_LONG", type := .int, accessFlags := 25, slot := 18, constantValue := 0 }, { name := "JLA", type := (.object "jdk/internal/access/JavaLangAccess"), accessFlags := 26, slot := 19, constantValue := 0 }, { name := "SOFT_MAX_ARRAY_LENGTH", type := .int, accessFlags := 25, slot := 20, constantValue := 0 }]
  methods := #[k12m0]
  instanceTypes := #[]
  staticTypes := #[(.object "jdk/internal/misc/Unsafe"), .boolean, .int, .int, .int, .int, .int, .int, .int, .int, .int, .int, .int, .int, .int, .int, .int, .int, .int, (.object "jdk/internal/access/JavaLangAccess"), .int]
  resolved := Array.replicate 378 none
  statics := none }

def pool13 : Array CpInfo := pool [(1, u "java/lang/Cloneable"), (0, .class_ 1), (0, u "java/lang/Object"), (0, .class_ 3)] 3

/-- java/lang/Cloneable -/
def k13 : Class := { plain "java/lang/Cloneable" (some 0) with
  accessFlags := 1537
  interfaces := #[]
  cf := some (fileOf pool13 2 #[] #[] 1537 4 #[] #[])
  fields := #[]
  methods := #[]
  instanceTypes := #[]
  staticTypes := #[]
  resolved := Array.replicate 8 none
  statics := none }

/-- the primitive byte -/
def k14 : Class := { plain "byte" none with kind := .primitive 'B', accessFlags := 0x411 }
/-- [B -/
def k15 : Class := { plain "[B" (some 0) with kind := .array 14 .byte, interfaces := #[13, 2], accessFlags := 1041 }

/-- the primitive char -/
def k16 : Class := { plain "char" none with kind := .primitive 'C', accessFlags := 0x411 }
/-- [C -/
def k17 : Class := { plain "[C" (some 0) with kind := .array 16 .char, interfaces := #[13, 2], accessFlags := 1041 }

/-- the primitive int -/
def k18 : Class := { plain "int" none with kind := .primitive 'I', accessFlags := 0x411 }
/-- [I -/
def k19 : Class := { plain "[I" (some 0) with kind := .array 18 .int, interfaces := #[13, 2], accessFlags := 1041 }

def heap : Heap := #[{ cls := 7, slots := #[.long 0, .int 1, .null, .int 0, .null, .int 0, .int 0], vm := .statics 7 },
  { cls := 11, slots := #[.null, .null, .null], vm := .statics 11 }]
def classes : Array Class := #[k0, k1, k2, k3, k4, k5, k6, k7, k8, k9, k10, k11, k12, k13, k14, k15, k16, k17, k18, k19]
def interned : List (Array UInt16 × Addr) := []
def slotsUsed : Nat := 10
def theMethod : MethodId := ⟨1, 2⟩
def args0 : Array Value := #[.int 5, .int 65, .int 66, .int 67, .int 68]
def aboutOver (below : List Frame) : State where
  vm := { classes := classes, interned := interned.toArray }
  heap := heap
  slotsUsed := slotsUsed
  threads := #[{ frames := .invoking theMethod args0 :: below }]
def below0 : List Frame := [.native { method := ⟨0, 0⟩, args := #[] }]
def about1 : State := aboutOver below0
def p0 : Program := .bare "" "" ""
def e0 : Env := launch0.env 0 0 0
theorem w_frames : about1.frames = Frame.invoking theMethod args0 :: below0 := rfl
set_option maxRecDepth 65536 in
theorem w_args : argsFit about1.vm theMethod args0 = true := by decide +kernel
set_option maxRecDepth 65536 in
theorem w_heap : heapFits about1 = true := by decide +kernel
set_option maxRecDepth 65536 in
theorem w_runnable : about1.curStatus? = some .runnable := by decide +kernel
set_option maxRecDepth 65536 in
theorem w_alone : about1.alone = true := by decide +kernel
set_option maxRecDepth 65536 in
theorem w_named : about1.methodNamed? x = some theMethod := by decide +kernel
set_option maxRecDepth 65536 in
theorem w_hears : about1.hears theMethod below0 = true := by decide +kernel
set_option maxRecDepth 65536 in
theorem w_ripe : about1.ripe theMethod args0 below0 = true := by decide +kernel
theorem w_running : about1.status = .running := rfl
set_option maxRecDepth 65536 in
theorem w_room : about1.hasRoom e0.platform room_1 = true :=
  launch0.hasRoom_least _ room_1 (by decide +kernel) (by decide +kernel) (by decide +kernel) (by decide +kernel) (by decide +kernel) (by decide +kernel)
theorem allAtoms_all (ts : List Jvm.Cond) (a : Array Jvm.Value) (st : Jvm.State) : (allAtoms ts).before a st = ts.all (fun c => c.before a st) := by
  induction ts with
  | nil => rfl
  | cons c t ih =>
    show (Jvm.Cond.and c (allAtoms t)).before a st = _
    rw [Jvm.Cond.before_and, ih, List.all_cons]
def words1 : List Jvm.Cond := Jvm.Cond.code x code maxLocals ret :: tables_1
/-- a 'code' word, met by the world's own term for the bytes: nothing is compared byte by byte -/
theorem code_word {y : MethodName} {bytes : ByteArray} {mx : Nat} {rt : Option FieldType} {a : Array Value} {s : State} {m : MethodId} {meth : Method} {c : Code} (h1 : s.methodNamed? y = some m) (h2 : s.vm.method? m = some meth) (h3 : meth.code = some c) (h4 : c.code = bytes)
    (h5 : (c.maxLocals == mx && c.exceptionTable.isEmpty && decide (c.maxStack ≤ mostOperands) && decide (meth.sig.returnType = rt) && !meth.locks && decide (parseMethodDescriptor y.desc = some meth.sig)) = true) : (Jvm.Cond.code y bytes mx rt).before a s = true := by
  simp only [Bool.and_eq_true, beq_iff_eq, Bool.not_eq_true', decide_eq_true_eq] at h5
  obtain ⟨⟨⟨⟨⟨g1, g2⟩, g3⟩, g4⟩, g5⟩, g6⟩ := h5
  simp [Cond.before, Cond.holds, Cond.value, h1, h2, h3, h4, g1, g2, g3, g4, g5, g6]
def isCode : Jvm.Cond → Bool
  | .code _ _ _ _ => true
  | _ => false
theorem all_split {L : List Jvm.Cond} {P : Jvm.Cond → Bool} (h1 : L.all (fun c => isCode c || P c) = true) (h2 : ∀ c ∈ L.filter isCode, P c = true) : L.all P = true := by
  refine List.all_eq_true.mpr fun c hc => ?_
  have h := List.all_eq_true.mp h1 c hc
  rcases Bool.eq_false_or_eq_true (isCode c) with hi | hi
  · exact h2 c (List.mem_filter.mpr ⟨hc, hi⟩)
  · simpa [hi] using h
set_option maxRecDepth 65536 in
theorem w_c0 : (Jvm.Cond.code x code maxLocals ret).before args0 about1 = true := code_word (m := ⟨1, 2⟩) (meth := k1m2) (c := k1c2) (by decide +kernel) rfl rfl rfl (by decide +kernel)
set_option maxRecDepth 65536 in
theorem w_c1 : (Jvm.Cond.code ({ cls := "java/lang/String", name := "<init>", desc := "([C)V" } : Jvm.MethodName) jdk_42_method_3_code (2 : Nat) (Option.none : Option Jvm.ClassFile.FieldType)).before args0 about1 = true := code_word (m := ⟨7, 1⟩) (meth := k7m1) (c := k7c1) (by decide +kernel) rfl rfl rfl (by decide +kernel)
set_option maxRecDepth 65536 in
theorem w_c2 : (Jvm.Cond.code ({ cls := "java/lang/String", name := "<init>", desc := "([CIILjava/lang/Void;)V" } : Jvm.MethodName) jdk_42_method_149_code (6 : Nat) (Option.none : Option Jvm.ClassFile.FieldType)).before args0 about1 = true := code_word (m := ⟨7, 4⟩) (meth := k7m4) (c := k7c4) (by decide +kernel) rfl rfl rfl (by decide +kernel)
set_option maxRecDepth 65536 in
theorem w_c3 : (Jvm.Cond.code ({ cls := "java/lang/Object", name := "<init>", desc := "()V" } : Jvm.MethodName) object_method_1_code (1 : Nat) (Option.none : Option Jvm.ClassFile.FieldType)).before args0 about1 = true := code_word (m := ⟨0, 0⟩) (meth := k0m0) (c := k0c0) (by decide +kernel) rfl rfl rfl (by decide +kernel)
set_option maxRecDepth 65536 in
theorem w_c4 : (Jvm.Cond.code ({ cls := "com/example/anteroom/anteroom/HttpSyntax", name := "isFieldValue", desc := "(Ljava/lang/String;)Z" } : Jvm.MethodName) prog_7_method_12_code (4 : Nat) (Option.some Jvm.ClassFile.FieldType.boolean)).before args0 about1 = true := code_word (m := ⟨8, 1⟩) (meth := k8m1) (c := k8c1) (by decide +kernel) rfl rfl rfl (by decide +kernel)
set_option maxRecDepth 65536 in
theorem w_c5 : (Jvm.Cond.code ({ cls := "java/lang/String", name := "length", desc := "()I" } : Jvm.MethodName) jdk_42_method_54_code (1 : Nat) (Option.some Jvm.ClassFile.FieldType.int)).before args0 about1 = true := code_word (m := ⟨7, 2⟩) (meth := k7m2) (c := k7c2) (by decide +kernel) rfl rfl rfl (by decide +kernel)
set_option maxRecDepth 65536 in
theorem w_c6 : (Jvm.Cond.code ({ cls := "java/lang/String", name := "coder", desc := "()B" } : Jvm.MethodName) jdk_42_method_152_code (1 : Nat) (Option.some Jvm.ClassFile.FieldType.byte)).before args0 about1 = true := code_word (m := ⟨7, 5⟩) (meth := k7m5) (c := k7c5) (by decide +kernel) rfl rfl rfl (by decide +kernel)
set_option maxRecDepth 65536 in
theorem w_c7 : (Jvm.Cond.code ({ cls := "java/lang/StringUTF16", name := "compress", desc := "([CII)[B" } : Jvm.MethodName) jdk_52_method_16_code (6 : Nat) (Option.some (Jvm.ClassFile.FieldType.array Jvm.ClassFile.FieldType.byte))).before args0 about1 = true := code_word (m := ⟨9, 2⟩) (meth := k9m2) (c := k9c2) (by decide +kernel) rfl rfl rfl (by decide +kernel)
set_option maxRecDepth 65536 in
theorem w_c8 : (Jvm.Cond.code ({ cls := "java/lang/StringUTF16", name := "compress", desc := "([CI[BII)I" } : Jvm.MethodName) jdk_52_method_21_code (7 : Nat) (Option.some Jvm.ClassFile.FieldType.int)).before args0 about1 = true := code_word (m := ⟨9, 3⟩) (meth := k9m3) (c := k9c3) (by decide +kernel) rfl rfl rfl (by decide +kernel)
set_option maxRecDepth 65536 in
theorem w_c9 : (Jvm.Cond.code ({ cls := "java/lang/StringUTF16", name := "coderFromArrayLen", desc := "([BI)B" } : Jvm.MethodName) jdk_52_method_15_code (2 : Nat) (Option.some Jvm.ClassFile.FieldType.byte)).before args0 about1 = true := code_word (m := ⟨9, 1⟩) (meth := k9m1) (c := k9c1) (by decide +kernel) rfl rfl rfl (by decide +kernel)
set_option maxRecDepth 65536 in
theorem w_c10 : (Jvm.Cond.code ({ cls := "com/example/anteroom/anteroom/HttpSyntaxIsFieldValuePinLaw", name := "ok", desc := "(C)Z" } : Jvm.MethodName) method_2_code (1 : Nat) (Option.some Jvm.ClassFile.FieldType.boolean)).before args0 about1 = true := code_word (m := ⟨1, 1⟩) (meth := k1m1) (c := k1c1) (by decide +kernel) rfl rfl rfl (by decide +kernel)
set_option maxRecDepth 65536 in
theorem w_c11 : (Jvm.Cond.code ({ cls := "java/lang/String", name := "charAt", desc := "(I)C" } : Jvm.MethodName) jdk_42_method_56_code (2 : Nat) (Option.some Jvm.ClassFile.FieldType.char)).before args0 about1 = true := code_word (m := ⟨7, 3⟩) (meth := k7m3) (c := k7c3) (by decide +kernel) rfl rfl rfl (by decide +kernel)
set_option maxRecDepth 65536 in
theorem w_c12 : (Jvm.Cond.code ({ cls := "java/lang/String", name := "isLatin1", desc := "()Z" } : Jvm.MethodName) jdk_42_method_154_code (1 : Nat) (Option.some Jvm.ClassFile.FieldType.boolean)).before args0 about1 = true := code_word (m := ⟨7, 6⟩) (meth := k7m6) (c := k7c6) (by decide +kernel) rfl rfl rfl (by decide +kernel)
set_option maxRecDepth 65536 in
theorem w_c13 : (Jvm.Cond.code ({ cls := "java/lang/StringLatin1", name := "charAt", desc := "([BI)C" } : Jvm.MethodName) jdk_43_method_2_code (2 : Nat) (Option.some Jvm.ClassFile.FieldType.char)).before args0 about1 = true := code_word (m := ⟨10, 1⟩) (meth := k10m1) (c := k10c1) (by decide +kernel) rfl rfl rfl (by decide +kernel)
set_option maxRecDepth 65536 in
theorem w_c14 : (Jvm.Cond.code ({ cls := "java/lang/String", name := "checkIndex", desc := "(II)V" } : Jvm.MethodName) jdk_42_method_155_code (2 : Nat) (Option.none : Option Jvm.ClassFile.FieldType)).before args0 about1 = true := code_word (m := ⟨7, 7⟩) (meth := k7m7) (c := k7c7) (by decide +kernel) rfl rfl rfl (by decide +kernel)
set_option maxRecDepth 65536 in
theorem w_c15 : (Jvm.Cond.code ({ cls := "jdk/internal/util/Preconditions", name := "checkIndex", desc := "(IILjava/util/function/BiFunction;)I" } : Jvm.MethodName) jdk_41_method_11_code (3 : Nat) (Option.some Jvm.ClassFile.FieldType.int)).before args0 about1 = true := code_word (m := ⟨11, 1⟩) (meth := k11m1) (c := k11c1) (by decide +kernel) rfl rfl rfl (by decide +kernel)
def codes1 : List Jvm.Cond := [Jvm.Cond.code x code maxLocals ret, Jvm.Cond.code ({ cls := "java/lang/String", name := "<init>", desc := "([C)V" } : Jvm.MethodName) jdk_42_method_3_code (2 : Nat) (Option.none : Option Jvm.ClassFile.FieldType), Jvm.Cond.code ({ cls := "java/lang/String", name := "<init>", desc := "([CIILjava/lang/Void;)V" } : Jvm.MethodName) jdk_42_method_149_code (6 : Nat) (Option.none : Option Jvm.ClassFile.FieldType), Jvm.Cond.code ({ cls := "java/lang/Object", name := "<init>", desc := "()V" } : Jvm.MethodName) object_method_1_code (1 : Nat) (Option.none : Option Jvm.ClassFile.FieldType), Jvm.Cond.code ({ cls := "com/example/anteroom/anteroom/HttpSyntax", name := "isFieldValue", desc := "(Ljava/lang/String;)Z" } : Jvm.MethodName) prog_7_method_12_code (4 : Nat) (Option.some Jvm.ClassFile.FieldType.boolean), Jvm.Cond.code ({ cls := "java/lang/String", name := "length", desc := "()I" } : Jvm.MethodName) jdk_42_method_54_code (1 : Nat) (Option.some Jvm.ClassFile.FieldType.int), Jvm.Cond.code ({ cls := "java/lang/String", name := "coder", desc := "()B" } : Jvm.MethodName) jdk_42_method_152_code (1 : Nat) (Option.some Jvm.ClassFile.FieldType.byte), Jvm.Cond.code ({ cls := "java/lang/StringUTF16", name := "compress", desc := "([CII)[B" } : Jvm.MethodName) jdk_52_method_16_code (6 : Nat) (Option.some (Jvm.ClassFile.FieldType.array Jvm.ClassFile.FieldType.byte)), Jvm.Cond.code ({ cls := "java/lang/StringUTF16", name := "compress", desc := "([CI[BII)I" } : Jvm.MethodName) jdk_52_method_21_code (7 : Nat) (Option.some Jvm.ClassFile.FieldType.int), Jvm.Cond.code ({ cls := "java/lang/StringUTF16", name := "coderFromArrayLen", desc := "([BI)B" } : Jvm.MethodName) jdk_52_method_15_code (2 : Nat) (Option.some Jvm.ClassFile.FieldType.byte), Jvm.Cond.code ({ cls := "com/example/anteroom/anteroom/HttpSyntaxIsFieldValuePinLaw", name := "ok", desc := "(C)Z" } : Jvm.MethodName) method_2_code (1 : Nat) (Option.some Jvm.ClassFile.FieldType.boolean), Jvm.Cond.code ({ cls := "java/lang/String", name := "charAt", desc := "(I)C" } : Jvm.MethodName) jdk_42_method_56_code (2 : Nat) (Option.some Jvm.ClassFile.FieldType.char), Jvm.Cond.code ({ cls := "java/lang/String", name := "isLatin1", desc := "()Z" } : Jvm.MethodName) jdk_42_method_154_code (1 : Nat) (Option.some Jvm.ClassFile.FieldType.boolean), Jvm.Cond.code ({ cls := "java/lang/StringLatin1", name := "charAt", desc := "([BI)C" } : Jvm.MethodName) jdk_43_method_2_code (2 : Nat) (Option.some Jvm.ClassFile.FieldType.char), Jvm.Cond.code ({ cls := "java/lang/String", name := "checkIndex", desc := "(II)V" } : Jvm.MethodName) jdk_42_method_155_code (2 : Nat) (Option.none : Option Jvm.ClassFile.FieldType), Jvm.Cond.code ({ cls := "jdk/internal/util/Preconditions", name := "checkIndex", desc := "(IILjava/util/function/BiFunction;)I" } : Jvm.MethodName) jdk_41_method_11_code (3 : Nat) (Option.some Jvm.ClassFile.FieldType.int)]
set_option maxRecDepth 65536 in
theorem codes_eq : words1.filter isCode = codes1 := rfl
theorem w_codes : ∀ c ∈ words1.filter isCode, c.before args0 about1 = true := by
  rw [codes_eq]
  intro c hc
  simp only [codes1, List.mem_cons, List.not_mem_nil, or_false] at hc
  rcases hc with rfl | rfl | rfl | rfl | rfl | rfl | rfl | rfl | rfl | rfl | rfl | rfl | rfl | rfl | rfl | rfl
  · exact w_c0
  · exact w_c1
  · exact w_c2
  · exact w_c3
  · exact w_c4
  · exact w_c5
  · exact w_c6
  · exact w_c7
  · exact w_c8
  · exact w_c9
  · exact w_c10
  · exact w_c11
  · exact w_c12
  · exact w_c13
  · exact w_c14
  · exact w_c15
set_option maxRecDepth 65536 in
theorem w_t1 : (words1.take 24).all (fun c => isCode c || c.before args0 about1) = true := by decide +kernel
set_option maxRecDepth 65536 in
theorem w_t2 : ((words1.drop 24).take 24).all (fun c => isCode c || c.before args0 about1) = true := by decide +kernel
set_option maxRecDepth 65536 in
theorem w_t3 : (((words1.drop 24).drop 24).take 24).all (fun c => isCode c || c.before args0 about1) = true := by decide +kernel
set_option maxRecDepth 65536 in
theorem w_t4 : (((words1.drop 24).drop 24).drop 24).all (fun c => isCode c || c.before args0 about1) = true := by decide +kernel
theorem w_tables : (allAtoms (Jvm.Cond.code x code maxLocals ret :: tables_1)).before args0 about1 = true := by
  rw [allAtoms_all]
  show words1.all (fun c => c.before args0 about1) = true
  refine all_split ?_ w_codes
  rw [← List.take_append_drop 24 words1, List.all_append, w_t1, ← List.take_append_drop 24 (words1.drop 24), List.all_append, w_t2, ← List.take_append_drop 24 ((words1.drop 24).drop 24), List.all_append, w_t3, w_t4]
  rfl
set_option maxRecDepth 65536 in
theorem w_rest : rest_1_c.before args0 about1 = true := by decide +kernel
set_option maxRecDepth 65536 in
theorem w_case : (Jvm.Cond.and given_1 narrow_1).before args0 about1 = true := by decide +kernel
set_option maxRecDepth 65536 in
theorem w_consts : constsHeld consts_1 about1 := Jvm.Lit.constsHeldB_iff.mp (by decide +kernel)
theorem w_applies : (headSpec (Jvm.Cond.code x code maxLocals ret :: tables_1) room_1).applies x e0.platform about1 = true :=
  (Spec.applies_iff w_frames).mpr ⟨w_running, w_runnable, w_alone, w_named, w_hears, w_ripe, w_room, w_tables⟩
theorem atStart : AtStart classFile x code maxLocals ret World_1 tables_1 room_1 Calls_1 rest_1 Pre_1 launch0 p0 e0 about1 theMethod args0 below0 :=
  ⟨lists_1, trivial, launch0.admits_env _ _ _, launch0.least_env, fairChoices_fair.cas, fairChoices_fair.clock, w_frames, w_args, w_heap, w_applies, ⟨w_consts, trivial⟩, w_rest, w_case⟩
end start1
theorem witness_1 : WitnessClaimed_1 := ⟨start1.p0, start1.e0, start1.about1, start1.theMethod, start1.args0, start1.below0, start1.atStart⟩
end Jvm.Pilot.@@N@@
