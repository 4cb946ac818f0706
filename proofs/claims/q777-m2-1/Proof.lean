import JvmDerived
import JvmDerived.Pilot.@@N@@Statement
import JvmDerived.Pilot.@@N@@Code
set_option linter.unusedVariables false
set_option linter.unusedSimpArgs false
@@BLOCK:NumsL.lean.txt@@
namespace Jvm.Pilot.@@N@@
open Jvm Jvm.ClassFile Sem Op Lib Jvm.Free Jvm.Stand Jvm.LawKit Jvm.RoadKit Bundle Jvm.Pilot.@@N@@.Jvm.D
section OwnLayer
variable {p : Program} {l : Launch} {e : Env} {R : Room} {s : State} {m : MethodId} {args : Array Value} {below : List Frame} {meth : Method} {c : Code} {T : State} {locs : List Loc} {cells slots : Nat}
variable {F : State → Outcome → Prop} {kc ks : Nat} {Q : Option Value → Heap → List Loc → Prop} {pc pc' : Nat} {ls : Array Slot} {st : List Value} {Z : State} {a0 : Array Value} {h : Heap}
/-- from this state and frame the run comes to an end of which F holds -/
def Goes (p : Program) (e : Env) (below : List Frame) (F : State → Outcome → Prop) (T : State) (g : JFrame) : Prop :=
  ∃ s₂ o, Steps p.tables e below (T.setTop g) s₂ ∧ s₂.status = .running ∧ Ended s₂ below o ∧ F s₂ o
/-- it returns, Q holds of the value, the heap and the places written; the frame is the plain one -/
def FinN (s : State) (kc ks : Nat) (Q : Option Value → Heap → List Loc → Prop) (s₂ : State) (o : Outcome) : Prop := ∃ v L, o = .returned v ∧ Q v s₂.heap L ∧ FrameEnd s o s₂ L kc ks
theorem Goes.fore {T' : State} {g g' : JFrame} (k : ∀ target, Steps p.tables e below (T'.setTop g') target → Steps p.tables e below (T.setTop g) target) (G : Goes p e below F T' g') : Goes p e below F T g := by
  obtain ⟨a, b, h, r⟩ := G; exact ⟨a, b, k _ h, r⟩
theorem Goes.tr {T' : State} {g g' : JFrame} (k : Steps p.tables e below (T.setTop g) (T'.setTop g')) (G : Goes p e below F T' g') : Goes p e below F T g := by
  obtain ⟨a, b, h, r⟩ := G; exact ⟨a, b, k.trans h, r⟩
theorem Goes.cast {g g' : JFrame} (q : g = g') (G : Goes p e below F T g') : Goes p e below F T g := q ▸ G
/-- a body's contract: called with these arguments on this heap it returns, and Q holds of the value, the heap and the places written -/
def Ctr (l : Launch) (Z : State) (y : MethodName) (bytes : ByteArray) (maxL : Nat) (ret : Option FieldType) (ws : List Jvm.Cond) (rm : Room) (as' : Array Value) (h0 : Heap) (Q : Option Value → Heap → List Loc → Prop) : Prop :=
  MetFree l y (head1 (Jvm.Cond.code y bytes maxL ret :: ws) rm) (fun a U => a = as' ∧ Z.Warmed39 U.vm ∧ U.heap = h0) (fun _ _ _ _ _ => True) (fun _ U o U' => ∃ v L, o = .returned v ∧ Q v U'.heap L ∧ FrameEnd U o U' L rm.cells rm.slots)
theorem Ctr.of {y : MethodName} {bytes : ByteArray} {maxL : Nat} {ret : Option FieldType} {ws : List Jvm.Cond} {rm : Room} {as' : Array Value} {h0 : Heap} (hp : plainFor y = true)
    (body : ∀ (p : Program) (e : Env) (s : State) (m : MethodId) (below : List Frame) (meth : Method) (c : Code) (s₁ : State), p.tables.exec = Jvm.exec → c.code = bytes → c.maxLocals = maxL → meth.sig.returnType = ret → s.vm.findClass y.cls = some m.cls → meth.name = y.name → Z.Warmed39 s.vm → meth.locks = false → Stand p l e rm s m as' below meth c s₁ [] 0 0 → s₁.heap = h0 → Goes p e below (FinN s rm.cells rm.slots Q) s₁ (entryFrame m as' maxL)) :
    Ctr l Z y bytes maxL ret ws rm as' h0 Q := by
  refine MetFree.of_bodySF hp hisR ?_
  intro p e s m args below meth c s₁ Bd hml hP hK
  obtain ⟨rfl, hZ, hh⟩ := hP
  exact body p e s m below meth c s₁ Bd.exec Bd.bytes hml Bd.returns (findClass_of_methodNamed Bd.named) (name_of_methodNamed Bd.named Bd.method).1 hZ Bd.notSynchronized (Stand.of_body Bd) (by rw [← hh, Bd.state]; rfl)
theorem Ctr.mono {y : MethodName} {bytes : ByteArray} {maxL : Nat} {ret : Option FieldType} {ws : List Jvm.Cond} {rm : Room} {as' : Array Value} {h0 : Heap} {Q' : Option Value → Heap → List Loc → Prop} (C : Ctr l Z y bytes maxL ret ws rm as' h0 Q) (hq : ∀ v h L, Q v h L → Q' v h L) : Ctr l Z y bytes maxL ret ws rm as' h0 Q' := by
  intro p e ha hc hk s m args below hf happ hP hK
  obtain ⟨n, o, h1, h2, h3, v, L, h4, h5, h6⟩ := C p e ha hc hk s m args below hf happ hP hK
  exact ⟨n, o, h1, h2, h3, v, L, h4, hq _ _ _ h5, h6⟩
/-- it returns w and leaves the heap as it was -/
def Just (h0 : Heap) (w : Value) (v : Option Value) (h : Heap) (L : List Loc) : Prop := v = some w ∧ h = h0 ∧ L = []
theorem gLoadIN (X : Stand p l e R s m args below meth c T locs cells slots) (hx : p.tables.exec = Jvm.exec) {k : Fin 4} {v : Int32} (hd : decode c.code pc = .ok (.iload_n k, 1)) (hl : ls[k.val]? = some (.val (.int v))) (hp : pc + 1 = pc') (k : Goes p e below F T (mkF m pc' ls (.int v :: st))) : Goes p e below F T (mkF m pc ls st) := by
  subst hp; exact Goes.fore (fun _ q => XS.iloadN X.here hx rfl hd hl q) k
theorem gLoadI (X : Stand p l e R s m args below meth c T locs cells slots) (hx : p.tables.exec = Jvm.exec) {k : Nat} {v : Int32} (hd : decode c.code pc = .ok (.iload k, 2)) (hl : ls[k]? = some (.val (.int v))) (hp : pc + 2 = pc') (k : Goes p e below F T (mkF m pc' ls (.int v :: st))) : Goes p e below F T (mkF m pc ls st) := by
  subst hp; exact Goes.fore (fun _ q => XS.iload X.here hx rfl hd hl q) k
theorem gStoreIN (X : Stand p l e R s m args below meth c T locs cells slots) (hx : p.tables.exec = Jvm.exec) {k : Fin 4} {v : Int32} {l' : Array Slot} (hd : decode c.code pc = .ok (.istore_n k, 1)) (hl : storeLocals ls k.val (.int v) = some l') (hp : pc + 1 = pc') (k : Goes p e below F T (mkF m pc' l' st)) : Goes p e below F T (mkF m pc ls (.int v :: st)) := by
  subst hp; exact Goes.fore (fun _ q => XS.istoreN X.here hx rfl hd rfl hl q) k
theorem gStoreI (X : Stand p l e R s m args below meth c T locs cells slots) (hx : p.tables.exec = Jvm.exec) {k : Nat} {v : Int32} {l' : Array Slot} (hd : decode c.code pc = .ok (.istore k, 2)) (hl : storeLocals ls k (.int v) = some l') (hp : pc + 2 = pc') (k : Goes p e below F T (mkF m pc' l' st)) : Goes p e below F T (mkF m pc ls (.int v :: st)) := by
  subst hp; exact Goes.fore (fun _ q => XS.istore X.here hx rfl hd rfl hl q) k
theorem gLoadJN (X : Stand p l e R s m args below meth c T locs cells slots) (hx : p.tables.exec = Jvm.exec) {k : Fin 4} {v : Int64} (hd : decode c.code pc = .ok (.lload_n k, 1)) (hl : ls[k.val]? = some (.val (.long v))) (hp : pc + 1 = pc') (k : Goes p e below F T (mkF m pc' ls (.long v :: st))) : Goes p e below F T (mkF m pc ls st) := by
  subst hp; exact Goes.fore (fun _ q => XS.lloadN X.here hx rfl hd hl q) k
theorem gLoadJ (X : Stand p l e R s m args below meth c T locs cells slots) (hx : p.tables.exec = Jvm.exec) {k : Nat} {v : Int64} (hd : decode c.code pc = .ok (.lload k, 2)) (hl : ls[k]? = some (.val (.long v))) (hp : pc + 2 = pc') (k : Goes p e below F T (mkF m pc' ls (.long v :: st))) : Goes p e below F T (mkF m pc ls st) := by
  subst hp; exact Goes.fore (fun _ q => XS.lload X.here hx rfl hd hl q) k
theorem gStoreJN (X : Stand p l e R s m args below meth c T locs cells slots) (hx : p.tables.exec = Jvm.exec) {k : Fin 4} {v : Int64} {l' : Array Slot} (hd : decode c.code pc = .ok (.lstore_n k, 1)) (hl : storeLocals ls k.val (.long v) = some l') (hp : pc + 1 = pc') (k : Goes p e below F T (mkF m pc' l' st)) : Goes p e below F T (mkF m pc ls (.long v :: st)) := by
  subst hp; exact Goes.fore (fun _ q => XS.lstoreN X.here hx rfl hd rfl hl q) k
theorem gStoreJ (X : Stand p l e R s m args below meth c T locs cells slots) (hx : p.tables.exec = Jvm.exec) {k : Nat} {v : Int64} {l' : Array Slot} (hd : decode c.code pc = .ok (.lstore k, 2)) (hl : storeLocals ls k (.long v) = some l') (hp : pc + 2 = pc') (k : Goes p e below F T (mkF m pc' l' st)) : Goes p e below F T (mkF m pc ls (.long v :: st)) := by
  subst hp; exact Goes.fore (fun _ q => XS.lstore X.here hx rfl hd rfl hl q) k
theorem gLoadAN (X : Stand p l e R s m args below meth c T locs cells slots) (hx : p.tables.exec = Jvm.exec) {k : Fin 4} {v : Value} (hd : decode c.code pc = .ok (.aload_n k, 1)) (hl : ls[k.val]? = some (.val v)) (hv : v.isRef = true) (hp : pc + 1 = pc') (k : Goes p e below F T (mkF m pc' ls (v :: st))) : Goes p e below F T (mkF m pc ls st) := by
  subst hp; exact Goes.fore (fun _ q => XS.aloadN X.here hx rfl hd hl hv q) k
theorem gLoadA (X : Stand p l e R s m args below meth c T locs cells slots) (hx : p.tables.exec = Jvm.exec) {k : Nat} {v : Value} (hd : decode c.code pc = .ok (.aload k, 2)) (hl : ls[k]? = some (.val v)) (hv : v.isRef = true) (hp : pc + 2 = pc') (k : Goes p e below F T (mkF m pc' ls (v :: st))) : Goes p e below F T (mkF m pc ls st) := by
  subst hp; exact Goes.fore (fun _ q => XS.aload X.here hx rfl hd hl hv q) k
theorem gStoreAN (X : Stand p l e R s m args below meth c T locs cells slots) (hx : p.tables.exec = Jvm.exec) {k : Fin 4} {v : Value} {l' : Array Slot} (hd : decode c.code pc = .ok (.astore_n k, 1)) (hv : v.isRef = true) (hl : storeLocals ls k.val v = some l') (hp : pc + 1 = pc') (k : Goes p e below F T (mkF m pc' l' st)) : Goes p e below F T (mkF m pc ls (v :: st)) := by
  subst hp; exact Goes.fore (fun _ q => XS.astoreN X.here hx rfl hd rfl hv hl q) k
theorem gStoreA (X : Stand p l e R s m args below meth c T locs cells slots) (hx : p.tables.exec = Jvm.exec) {k : Nat} {v : Value} {l' : Array Slot} (hd : decode c.code pc = .ok (.astore k, 2)) (hv : v.isRef = true) (hl : storeLocals ls k v = some l') (hp : pc + 2 = pc') (k : Goes p e below F T (mkF m pc' l' st)) : Goes p e below F T (mkF m pc ls (v :: st)) := by
  subst hp; exact Goes.fore (fun _ q => XS.astore X.here hx rfl hd rfl hv hl q) k
theorem gIconst (X : Stand p l e R s m args below meth c T locs cells slots) (hx : p.tables.exec = Jvm.exec) {i : Int} {v : Int32} (hd : decode c.code pc = .ok (.iconst i, 1)) (hv : Int32.ofInt i = v) (hp : pc + 1 = pc') (k : Goes p e below F T (mkF m pc' ls (.int v :: st))) : Goes p e below F T (mkF m pc ls st) := by
  subst hp; exact Goes.fore (fun _ q => XT.iconstV X.here hx rfl v hd hv q) k
theorem gBipush (X : Stand p l e R s m args below meth c T locs cells slots) (hx : p.tables.exec = Jvm.exec) {i : Int} {v : Int32} (hd : decode c.code pc = .ok (.bipush i, 2)) (hv : (Int8.ofInt i).toInt32 = v) (hp : pc + 2 = pc') (k : Goes p e below F T (mkF m pc' ls (.int v :: st))) : Goes p e below F T (mkF m pc ls st) := by
  subst hp; exact Goes.fore (fun _ q => XT.bipushV X.here hx rfl v hd hv q) k
theorem gSipush (X : Stand p l e R s m args below meth c T locs cells slots) (hx : p.tables.exec = Jvm.exec) {i : Int} {v : Int32} (hd : decode c.code pc = .ok (.sipush i, 3)) (hv : (Int16.ofInt i).toInt32 = v) (hp : pc + 3 = pc') (k : Goes p e below F T (mkF m pc' ls (.int v :: st))) : Goes p e below F T (mkF m pc ls st) := by
  subst hp; exact Goes.fore (fun _ q => XT.sipushV X.here hx rfl v hd hv q) k
theorem gLconst (X : Stand p l e R s m args below meth c T locs cells slots) (hx : p.tables.exec = Jvm.exec) {i : Fin 2} {v : Int64} (hd : decode c.code pc = .ok (.lconst i, 1)) (hv : Int64.ofNat i = v) (hp : pc + 1 = pc') (k : Goes p e below F T (mkF m pc' ls (.long v :: st))) : Goes p e below F T (mkF m pc ls st) := by
  subst hp; exact Goes.fore (fun _ q => XT.lconstV X.here hx rfl v hd hv q) k
theorem gNull (X : Stand p l e R s m args below meth c T locs cells slots) (hx : p.tables.exec = Jvm.exec)  (hd : decode c.code pc = .ok (.aconst_null, 1))  (hp : pc + 1 = pc') (k : Goes p e below F T (mkF m pc' ls (.null :: st))) : Goes p e below F T (mkF m pc ls st) := by
  subst hp; exact Goes.fore (fun _ q => XS.aconstNull X.here hx rfl hd q) k
theorem gLdc (X : Stand p l e R s m args below meth c T locs cells slots) (hx : p.tables.exec = Jvm.exec) {own : String} {i : Nat} {v : Int32} (hZ : Z.Warmed39 s.vm) (hown : s.vm.findClass own = some m.cls) (w : (Jvm.Cond.constant own i v).before a0 Z = true) (hd : decode c.code pc = .ok (.ldc i, 2))  (hp : pc + 2 = pc') (k : Goes p e below F T (mkF m pc' ls (.int v :: st))) : Goes p e below F T (mkF m pc ls st) := by
  subst hp; exact Goes.fore (fun _ q => X.ldcI hx hown (mvT hZ w) rfl hd q) k
theorem gLdcW (X : Stand p l e R s m args below meth c T locs cells slots) (hx : p.tables.exec = Jvm.exec) {own : String} {i : Nat} {v : Int32} (hZ : Z.Warmed39 s.vm) (hown : s.vm.findClass own = some m.cls) (w : (Jvm.Cond.constant own i v).before a0 Z = true) (hd : decode c.code pc = .ok (.ldc_w i, 3))  (hp : pc + 3 = pc') (k : Goes p e below F T (mkF m pc' ls (.int v :: st))) : Goes p e below F T (mkF m pc ls st) := by
  subst hp; exact Goes.fore (fun _ q => X.ldcWI hx hown (mvT hZ w) rfl hd q) k
theorem gLdc2 (X : Stand p l e R s m args below meth c T locs cells slots) (hx : p.tables.exec = Jvm.exec) {own : String} {i : Nat} {v : Int64} (hZ : Z.Warmed39 s.vm) (hown : s.vm.findClass own = some m.cls) (w : (Jvm.Cond.constantLong own i v).before a0 Z = true) (hd : decode c.code pc = .ok (.ldc2_w i, 3))  (hp : pc + 3 = pc') (k : Goes p e below F T (mkF m pc' ls (.long v :: st))) : Goes p e below F T (mkF m pc ls st) := by
  subst hp; exact Goes.fore (fun _ q => X.ldc2J hx hown (mvT hZ w) rfl hd q) k
theorem gIadd (X : Stand p l e R s m args below meth c T locs cells slots) (hx : p.tables.exec = Jvm.exec) {x y : Int32} (hd : decode c.code pc = .ok (.iadd, 1))  (hp : pc + 1 = pc') (k : Goes p e below F T (mkF m pc' ls (.int (x + y) :: st))) : Goes p e below F T (mkF m pc ls (.int y :: .int x :: st)) := by
  subst hp; exact Goes.fore (fun _ q => XS.iadd X.here hx rfl hd rfl q) k
theorem gIsub (X : Stand p l e R s m args below meth c T locs cells slots) (hx : p.tables.exec = Jvm.exec) {x y : Int32} (hd : decode c.code pc = .ok (.isub, 1))  (hp : pc + 1 = pc') (k : Goes p e below F T (mkF m pc' ls (.int (x - y) :: st))) : Goes p e below F T (mkF m pc ls (.int y :: .int x :: st)) := by
  subst hp; exact Goes.fore (fun _ q => XS.isub X.here hx rfl hd rfl q) k
theorem gImul (X : Stand p l e R s m args below meth c T locs cells slots) (hx : p.tables.exec = Jvm.exec) {x y : Int32} (hd : decode c.code pc = .ok (.imul, 1))  (hp : pc + 1 = pc') (k : Goes p e below F T (mkF m pc' ls (.int (x * y) :: st))) : Goes p e below F T (mkF m pc ls (.int y :: .int x :: st)) := by
  subst hp; exact Goes.fore (fun _ q => XS.imul X.here hx rfl hd rfl q) k
theorem gIand (X : Stand p l e R s m args below meth c T locs cells slots) (hx : p.tables.exec = Jvm.exec) {x y : Int32} (hd : decode c.code pc = .ok (.iand, 1))  (hp : pc + 1 = pc') (k : Goes p e below F T (mkF m pc' ls (.int (x &&& y) :: st))) : Goes p e below F T (mkF m pc ls (.int y :: .int x :: st)) := by
  subst hp; exact Goes.fore (fun _ q => XS.iand X.here hx rfl hd rfl q) k
theorem gIor (X : Stand p l e R s m args below meth c T locs cells slots) (hx : p.tables.exec = Jvm.exec) {x y : Int32} (hd : decode c.code pc = .ok (.ior, 1))  (hp : pc + 1 = pc') (k : Goes p e below F T (mkF m pc' ls (.int (x ||| y) :: st))) : Goes p e below F T (mkF m pc ls (.int y :: .int x :: st)) := by
  subst hp; exact Goes.fore (fun _ q => XS.ior X.here hx rfl hd rfl q) k
theorem gIxor (X : Stand p l e R s m args below meth c T locs cells slots) (hx : p.tables.exec = Jvm.exec) {x y : Int32} (hd : decode c.code pc = .ok (.ixor, 1))  (hp : pc + 1 = pc') (k : Goes p e below F T (mkF m pc' ls (.int (x ^^^ y) :: st))) : Goes p e below F T (mkF m pc ls (.int y :: .int x :: st)) := by
  subst hp; exact Goes.fore (fun _ q => XS.ixor X.here hx rfl hd rfl q) k
theorem gIshl (X : Stand p l e R s m args below meth c T locs cells slots) (hx : p.tables.exec = Jvm.exec) {x y : Int32} (hd : decode c.code pc = .ok (.ishl, 1))  (hp : pc + 1 = pc') (k : Goes p e below F T (mkF m pc' ls (.int (x <<< (y &&& 31)) :: st))) : Goes p e below F T (mkF m pc ls (.int y :: .int x :: st)) := by
  subst hp; exact Goes.fore (fun _ q => XS.ishl X.here hx rfl hd rfl q) k
theorem gIshr (X : Stand p l e R s m args below meth c T locs cells slots) (hx : p.tables.exec = Jvm.exec) {x y : Int32} (hd : decode c.code pc = .ok (.ishr, 1))  (hp : pc + 1 = pc') (k : Goes p e below F T (mkF m pc' ls (.int (x >>> (y &&& 31)) :: st))) : Goes p e below F T (mkF m pc ls (.int y :: .int x :: st)) := by
  subst hp; exact Goes.fore (fun _ q => XS.ishr X.here hx rfl hd rfl q) k
theorem gIushr (X : Stand p l e R s m args below meth c T locs cells slots) (hx : p.tables.exec = Jvm.exec) {x y : Int32} (hd : decode c.code pc = .ok (.iushr, 1))  (hp : pc + 1 = pc') (k : Goes p e below F T (mkF m pc' ls (.int ((x.toUInt32 >>> (y &&& 31).toUInt32).toInt32) :: st))) : Goes p e below F T (mkF m pc ls (.int y :: .int x :: st)) := by
  subst hp; exact Goes.fore (fun _ q => XS.iushr X.here hx rfl hd rfl q) k
theorem gLadd (X : Stand p l e R s m args below meth c T locs cells slots) (hx : p.tables.exec = Jvm.exec) {x y : Int64} (hd : decode c.code pc = .ok (.ladd, 1))  (hp : pc + 1 = pc') (k : Goes p e below F T (mkF m pc' ls (.long (x + y) :: st))) : Goes p e below F T (mkF m pc ls (.long y :: .long x :: st)) := by
  subst hp; exact Goes.fore (fun _ q => XS.ladd X.here hx rfl hd rfl q) k
theorem gLsub (X : Stand p l e R s m args below meth c T locs cells slots) (hx : p.tables.exec = Jvm.exec) {x y : Int64} (hd : decode c.code pc = .ok (.lsub, 1))  (hp : pc + 1 = pc') (k : Goes p e below F T (mkF m pc' ls (.long (x - y) :: st))) : Goes p e below F T (mkF m pc ls (.long y :: .long x :: st)) := by
  subst hp; exact Goes.fore (fun _ q => XS.lsub X.here hx rfl hd rfl q) k
theorem gLmul (X : Stand p l e R s m args below meth c T locs cells slots) (hx : p.tables.exec = Jvm.exec) {x y : Int64} (hd : decode c.code pc = .ok (.lmul, 1))  (hp : pc + 1 = pc') (k : Goes p e below F T (mkF m pc' ls (.long (x * y) :: st))) : Goes p e below F T (mkF m pc ls (.long y :: .long x :: st)) := by
  subst hp; exact Goes.fore (fun _ q => XS.lmul X.here hx rfl hd rfl q) k
theorem gLand (X : Stand p l e R s m args below meth c T locs cells slots) (hx : p.tables.exec = Jvm.exec) {x y : Int64} (hd : decode c.code pc = .ok (.land, 1))  (hp : pc + 1 = pc') (k : Goes p e below F T (mkF m pc' ls (.long (x &&& y) :: st))) : Goes p e below F T (mkF m pc ls (.long y :: .long x :: st)) := by
  subst hp; exact Goes.fore (fun _ q => XS.land X.here hx rfl hd rfl q) k
theorem gLor (X : Stand p l e R s m args below meth c T locs cells slots) (hx : p.tables.exec = Jvm.exec) {x y : Int64} (hd : decode c.code pc = .ok (.lor, 1))  (hp : pc + 1 = pc') (k : Goes p e below F T (mkF m pc' ls (.long (x ||| y) :: st))) : Goes p e below F T (mkF m pc ls (.long y :: .long x :: st)) := by
  subst hp; exact Goes.fore (fun _ q => XS.lor X.here hx rfl hd rfl q) k
theorem gLxor (X : Stand p l e R s m args below meth c T locs cells slots) (hx : p.tables.exec = Jvm.exec) {x y : Int64} (hd : decode c.code pc = .ok (.lxor, 1))  (hp : pc + 1 = pc') (k : Goes p e below F T (mkF m pc' ls (.long (x ^^^ y) :: st))) : Goes p e below F T (mkF m pc ls (.long y :: .long x :: st)) := by
  subst hp; exact Goes.fore (fun _ q => XS.lxor X.here hx rfl hd rfl q) k
theorem gLshl (X : Stand p l e R s m args below meth c T locs cells slots) (hx : p.tables.exec = Jvm.exec) {x : Int64} {y : Int32} (hd : decode c.code pc = .ok (.lshl, 1))  (hp : pc + 1 = pc') (k : Goes p e below F T (mkF m pc' ls (.long (x <<< (y &&& 0x3f).toInt64) :: st))) : Goes p e below F T (mkF m pc ls (.int y :: .long x :: st)) := by
  subst hp; exact Goes.fore (fun _ q => XS.lshl X.here hx rfl hd rfl q) k
theorem gLshr (X : Stand p l e R s m args below meth c T locs cells slots) (hx : p.tables.exec = Jvm.exec) {x : Int64} {y : Int32} (hd : decode c.code pc = .ok (.lshr, 1))  (hp : pc + 1 = pc') (k : Goes p e below F T (mkF m pc' ls (.long (x >>> (y &&& 0x3f).toInt64) :: st))) : Goes p e below F T (mkF m pc ls (.int y :: .long x :: st)) := by
  subst hp; exact Goes.fore (fun _ q => XS.lshr X.here hx rfl hd rfl q) k
theorem gLushr (X : Stand p l e R s m args below meth c T locs cells slots) (hx : p.tables.exec = Jvm.exec) {x : Int64} {y : Int32} (hd : decode c.code pc = .ok (.lushr, 1))  (hp : pc + 1 = pc') (k : Goes p e below F T (mkF m pc' ls (.long ((x.toUInt64 >>> (y &&& 0x3f).toInt64.toUInt64).toInt64) :: st))) : Goes p e below F T (mkF m pc ls (.int y :: .long x :: st)) := by
  subst hp; exact Goes.fore (fun _ q => XS.lushr X.here hx rfl hd rfl q) k
theorem gIdiv (X : Stand p l e R s m args below meth c T locs cells slots) (hx : p.tables.exec = Jvm.exec) {x y : Int32} (hd : decode c.code pc = .ok (.idiv, 1)) (hy : y ≠ 0) (hp : pc + 1 = pc') (k : Goes p e below F T (mkF m pc' ls (.int (x / y) :: st))) : Goes p e below F T (mkF m pc ls (.int y :: .int x :: st)) := by
  subst hp; exact Goes.fore (fun _ q => XS.idiv X.here hx rfl hd rfl hy q) k
theorem gIrem (X : Stand p l e R s m args below meth c T locs cells slots) (hx : p.tables.exec = Jvm.exec) {x y : Int32} (hd : decode c.code pc = .ok (.irem, 1)) (hy : y ≠ 0) (hp : pc + 1 = pc') (k : Goes p e below F T (mkF m pc' ls (.int (x % y) :: st))) : Goes p e below F T (mkF m pc ls (.int y :: .int x :: st)) := by
  subst hp; exact Goes.fore (fun _ q => iremM X hx rfl hd rfl hy q) k
theorem gIneg (X : Stand p l e R s m args below meth c T locs cells slots) (hx : p.tables.exec = Jvm.exec) {x : Int32} (hd : decode c.code pc = .ok (.ineg, 1))  (hp : pc + 1 = pc') (k : Goes p e below F T (mkF m pc' ls (.int (-x) :: st))) : Goes p e below F T (mkF m pc ls (.int x :: st)) := by
  subst hp; exact Goes.fore (fun _ q => XS.ineg X.here hx rfl hd rfl q) k
theorem gLneg (X : Stand p l e R s m args below meth c T locs cells slots) (hx : p.tables.exec = Jvm.exec) {x : Int64} (hd : decode c.code pc = .ok (.lneg, 1))  (hp : pc + 1 = pc') (k : Goes p e below F T (mkF m pc' ls (.long (-x) :: st))) : Goes p e below F T (mkF m pc ls (.long x :: st)) := by
  subst hp; exact Goes.fore (fun _ q => XS.lneg X.here hx rfl hd rfl q) k
theorem gI2l (X : Stand p l e R s m args below meth c T locs cells slots) (hx : p.tables.exec = Jvm.exec) {x : Int32} (hd : decode c.code pc = .ok (.i2l, 1))  (hp : pc + 1 = pc') (k : Goes p e below F T (mkF m pc' ls (.long (x.toInt64) :: st))) : Goes p e below F T (mkF m pc ls (.int x :: st)) := by
  subst hp; exact Goes.fore (fun _ q => XS.i2l X.here hx rfl hd rfl q) k
theorem gL2i (X : Stand p l e R s m args below meth c T locs cells slots) (hx : p.tables.exec = Jvm.exec) {x : Int64} (hd : decode c.code pc = .ok (.l2i, 1))  (hp : pc + 1 = pc') (k : Goes p e below F T (mkF m pc' ls (.int (x.toInt32) :: st))) : Goes p e below F T (mkF m pc ls (.long x :: st)) := by
  subst hp; exact Goes.fore (fun _ q => XS.l2i X.here hx rfl hd rfl q) k
theorem gI2b (X : Stand p l e R s m args below meth c T locs cells slots) (hx : p.tables.exec = Jvm.exec) {x : Int32} (hd : decode c.code pc = .ok (.i2b, 1))  (hp : pc + 1 = pc') (k : Goes p e below F T (mkF m pc' ls (.int (x.toInt8.toInt32) :: st))) : Goes p e below F T (mkF m pc ls (.int x :: st)) := by
  subst hp; exact Goes.fore (fun _ q => XS.i2b X.here hx rfl hd rfl q) k
theorem gI2c (X : Stand p l e R s m args below meth c T locs cells slots) (hx : p.tables.exec = Jvm.exec) {x : Int32} (hd : decode c.code pc = .ok (.i2c, 1))  (hp : pc + 1 = pc') (k : Goes p e below F T (mkF m pc' ls (.int (x.toUInt32.toUInt16.toUInt32.toInt32) :: st))) : Goes p e below F T (mkF m pc ls (.int x :: st)) := by
  subst hp; exact Goes.fore (fun _ q => XS.i2c X.here hx rfl hd rfl q) k
theorem gI2s (X : Stand p l e R s m args below meth c T locs cells slots) (hx : p.tables.exec = Jvm.exec) {x : Int32} (hd : decode c.code pc = .ok (.i2s, 1))  (hp : pc + 1 = pc') (k : Goes p e below F T (mkF m pc' ls (.int (x.toInt16.toInt32) :: st))) : Goes p e below F T (mkF m pc ls (.int x :: st)) := by
  subst hp; exact Goes.fore (fun _ q => XS.i2s X.here hx rfl hd rfl q) k
theorem gLcmp (X : Stand p l e R s m args below meth c T locs cells slots) (hx : p.tables.exec = Jvm.exec) {x y : Int64} (hd : decode c.code pc = .ok (.lcmp, 1))  (hp : pc + 1 = pc') (k : Goes p e below F T (mkF m pc' ls (.int (lcmpW x y) :: st))) : Goes p e below F T (mkF m pc ls (.long y :: .long x :: st)) := by
  subst hp; exact Goes.fore (fun _ q => XS.lcmp X.here hx rfl hd rfl q) k
theorem gIinc (X : Stand p l e R s m args below meth c T locs cells slots) (hx : p.tables.exec = Jvm.exec) {k : Nat} {i : Int} {x v : Int32} {l' : Array Slot} (hd : decode c.code pc = .ok (.iinc k i, 3)) (hv : Int32.ofInt i = v) (hl : ls[k]? = some (.val (.int x))) (hl' : storeLocals ls k (.int (x + v)) = some l') (hp : pc + 3 = pc') (k : Goes p e below F T (mkF m pc' l' st)) : Goes p e below F T (mkF m pc ls st) := by
  subst hp; exact Goes.fore (fun _ q => XT.iincV X.here hx rfl v hd hv hl hl' q) k
theorem gDup (X : Stand p l e R s m args below meth c T locs cells slots) (hx : p.tables.exec = Jvm.exec) {v : Value} (hd : decode c.code pc = .ok (.dup, 1)) (hv : v.category = 1) (hp : pc + 1 = pc') (k : Goes p e below F T (mkF m pc' ls (v :: v :: st))) : Goes p e below F T (mkF m pc ls (v :: st)) := by
  subst hp; exact Goes.fore (fun _ q => XS.dup X.here hx rfl hd rfl hv q) k
theorem gPop (X : Stand p l e R s m args below meth c T locs cells slots) (hx : p.tables.exec = Jvm.exec) {v : Value} (hd : decode c.code pc = .ok (.pop, 1)) (hv : v.category = 1) (hp : pc + 1 = pc') (k : Goes p e below F T (mkF m pc' ls st)) : Goes p e below F T (mkF m pc ls (v :: st)) := by
  subst hp; exact Goes.fore (fun _ q => XS.pop X.here hx rfl hd rfl hv q) k
theorem gDupX1 (X : Stand p l e R s m args below meth c T locs cells slots) (hx : p.tables.exec = Jvm.exec) {v w : Value} (hd : decode c.code pc = .ok (.dup_x1, 1)) (hv : v.category = 1) (hw : w.category = 1) (hp : pc + 1 = pc') (k : Goes p e below F T (mkF m pc' ls (v :: w :: v :: st))) : Goes p e below F T (mkF m pc ls (v :: w :: st)) := by
  subst hp; exact Goes.fore (fun _ q => XS.dupX1 X.here hx rfl hd rfl hv hw q) k
theorem gDup2 (X : Stand p l e R s m args below meth c T locs cells slots) (hx : p.tables.exec = Jvm.exec) {v w : Value} (hd : decode c.code pc = .ok (.dup2, 1)) (hv : v.category = 1) (hw : w.category = 1) (hp : pc + 1 = pc') (k : Goes p e below F T (mkF m pc' ls (v :: w :: v :: w :: st))) : Goes p e below F T (mkF m pc ls (v :: w :: st)) := by
  subst hp; exact Goes.fore (fun _ q => XT.dup2 X.here hx rfl hd rfl hv hw q) k
theorem gGoto (X : Stand p l e R s m args below meth c T locs cells slots) (hx : p.tables.exec = Jvm.exec) {o : Int} (hd : decode c.code pc = .ok (.goto o, 3)) (ho : 0 ≤ (pc : Int) + o) (hp : ((pc : Int) + o).toNat = pc') (k : Goes p e below F T (mkF m pc' ls st)) : Goes p e below F T (mkF m pc ls st) := Goes.fore (fun _ q => XS.goto X.here hx rfl rfl hd ho hp q) k
theorem gIcmp (X : Stand p l e R s m args below meth c T locs cells slots) (hx : p.tables.exec = Jvm.exec) {cd : ClassFile.Cond} {o : Int} {x y : Int32} {pn : Nat} (hd : decode c.code pc = .ok (.if_icmp cd o, 3)) (ho : 0 ≤ (pc : Int) + o) (hp : ((pc : Int) + o).toNat = pc') (hn : pc + 3 = pn) (kY : if_icmp.holds cd x y = true → Goes p e below F T (mkF m pc' ls st)) (kN : if_icmp.holds cd x y = false → Goes p e below F T (mkF m pn ls st)) : Goes p e below F T (mkF m pc ls (.int y :: .int x :: st)) := by
  subst hn
  cases hb : if_icmp.holds cd x y
  · exact Goes.fore (fun _ q => XS.icmpNo X.here hx rfl hd rfl hb q) (kN hb)
  · exact Goes.fore (fun _ q => XS.icmpYes X.here hx rfl rfl hd rfl hb ho hp q) (kY hb)
theorem gIf (X : Stand p l e R s m args below meth c T locs cells slots) (hx : p.tables.exec = Jvm.exec) {cd : ClassFile.Cond} {o : Int} {x : Int32} {pn : Nat} (hd : decode c.code pc = .ok (.ifCond cd o, 3)) (ho : 0 ≤ (pc : Int) + o) (hp : ((pc : Int) + o).toNat = pc') (hn : pc + 3 = pn) (kY : ifCond.holds cd x = true → Goes p e below F T (mkF m pc' ls st)) (kN : ifCond.holds cd x = false → Goes p e below F T (mkF m pn ls st)) : Goes p e below F T (mkF m pc ls (.int x :: st)) := by
  subst hn
  cases hb : ifCond.holds cd x
  · exact Goes.fore (fun _ q => XS.ifNo X.here hx rfl hd rfl hb q) (kN hb)
  · exact Goes.fore (fun _ q => XS.ifYes X.here hx rfl rfl hd rfl hb ho hp q) (kY hb)
theorem gIcmpEq (X : Stand p l e R s m args below meth c T locs cells slots) (hx : p.tables.exec = Jvm.exec) {o : Int} {x y : Int32} {pn : Nat} (hd : decode c.code pc = .ok (.if_icmp .eq o, 3)) (ho : 0 ≤ (pc : Int) + o) (hp : ((pc : Int) + o).toNat = pc') (hn : pc + 3 = pn) (kY : x = y → Goes p e below F T (mkF m pc' ls st)) (kN : ¬ x = y → Goes p e below F T (mkF m pn ls st)) : Goes p e below F T (mkF m pc ls (.int y :: .int x :: st)) :=
  gIcmp X hx hd ho hp hn (fun q => kY (by simpa [if_icmp.holds, Int32.lt_iff_toInt_lt, Int32.le_iff_toInt_le] using q)) (fun q => kN (by simpa [if_icmp.holds, Int32.lt_iff_toInt_lt, Int32.le_iff_toInt_le] using q))
theorem gIfEq (X : Stand p l e R s m args below meth c T locs cells slots) (hx : p.tables.exec = Jvm.exec) {o : Int} {x : Int32} {pn : Nat} (hd : decode c.code pc = .ok (.ifCond .eq o, 3)) (ho : 0 ≤ (pc : Int) + o) (hp : ((pc : Int) + o).toNat = pc') (hn : pc + 3 = pn) (kY : x = 0 → Goes p e below F T (mkF m pc' ls st)) (kN : ¬ x = 0 → Goes p e below F T (mkF m pn ls st)) : Goes p e below F T (mkF m pc ls (.int x :: st)) :=
  gIf X hx hd ho hp hn (fun q => kY (by simpa [ifCond.holds, Int32.lt_iff_toInt_lt, Int32.le_iff_toInt_le] using q)) (fun q => kN (by simpa [ifCond.holds, Int32.lt_iff_toInt_lt, Int32.le_iff_toInt_le] using q))
theorem gIcmpNe (X : Stand p l e R s m args below meth c T locs cells slots) (hx : p.tables.exec = Jvm.exec) {o : Int} {x y : Int32} {pn : Nat} (hd : decode c.code pc = .ok (.if_icmp .ne o, 3)) (ho : 0 ≤ (pc : Int) + o) (hp : ((pc : Int) + o).toNat = pc') (hn : pc + 3 = pn) (kY : ¬ x = y → Goes p e below F T (mkF m pc' ls st)) (kN : x = y → Goes p e below F T (mkF m pn ls st)) : Goes p e below F T (mkF m pc ls (.int y :: .int x :: st)) :=
  gIcmp X hx hd ho hp hn (fun q => kY (by simpa [if_icmp.holds, Int32.lt_iff_toInt_lt, Int32.le_iff_toInt_le] using q)) (fun q => kN (by simpa [if_icmp.holds, Int32.lt_iff_toInt_lt, Int32.le_iff_toInt_le] using q))
theorem gIfNe (X : Stand p l e R s m args below meth c T locs cells slots) (hx : p.tables.exec = Jvm.exec) {o : Int} {x : Int32} {pn : Nat} (hd : decode c.code pc = .ok (.ifCond .ne o, 3)) (ho : 0 ≤ (pc : Int) + o) (hp : ((pc : Int) + o).toNat = pc') (hn : pc + 3 = pn) (kY : ¬ x = 0 → Goes p e below F T (mkF m pc' ls st)) (kN : x = 0 → Goes p e below F T (mkF m pn ls st)) : Goes p e below F T (mkF m pc ls (.int x :: st)) :=
  gIf X hx hd ho hp hn (fun q => kY (by simpa [ifCond.holds, Int32.lt_iff_toInt_lt, Int32.le_iff_toInt_le] using q)) (fun q => kN (by simpa [ifCond.holds, Int32.lt_iff_toInt_lt, Int32.le_iff_toInt_le] using q))
theorem gIcmpLt (X : Stand p l e R s m args below meth c T locs cells slots) (hx : p.tables.exec = Jvm.exec) {o : Int} {x y : Int32} {pn : Nat} (hd : decode c.code pc = .ok (.if_icmp .lt o, 3)) (ho : 0 ≤ (pc : Int) + o) (hp : ((pc : Int) + o).toNat = pc') (hn : pc + 3 = pn) (kY : x.toInt < y.toInt → Goes p e below F T (mkF m pc' ls st)) (kN : y.toInt ≤ x.toInt → Goes p e below F T (mkF m pn ls st)) : Goes p e below F T (mkF m pc ls (.int y :: .int x :: st)) :=
  gIcmp X hx hd ho hp hn (fun q => kY (by simpa [if_icmp.holds, Int32.lt_iff_toInt_lt, Int32.le_iff_toInt_le] using q)) (fun q => kN (by simpa [if_icmp.holds, Int32.lt_iff_toInt_lt, Int32.le_iff_toInt_le] using q))
theorem gIfLt (X : Stand p l e R s m args below meth c T locs cells slots) (hx : p.tables.exec = Jvm.exec) {o : Int} {x : Int32} {pn : Nat} (hd : decode c.code pc = .ok (.ifCond .lt o, 3)) (ho : 0 ≤ (pc : Int) + o) (hp : ((pc : Int) + o).toNat = pc') (hn : pc + 3 = pn) (kY : x.toInt < (0 : Int) → Goes p e below F T (mkF m pc' ls st)) (kN : (0 : Int) ≤ x.toInt → Goes p e below F T (mkF m pn ls st)) : Goes p e below F T (mkF m pc ls (.int x :: st)) :=
  gIf X hx hd ho hp hn (fun q => kY (by simpa [ifCond.holds, Int32.lt_iff_toInt_lt, Int32.le_iff_toInt_le] using q)) (fun q => kN (by simpa [ifCond.holds, Int32.lt_iff_toInt_lt, Int32.le_iff_toInt_le] using q))
theorem gIcmpGe (X : Stand p l e R s m args below meth c T locs cells slots) (hx : p.tables.exec = Jvm.exec) {o : Int} {x y : Int32} {pn : Nat} (hd : decode c.code pc = .ok (.if_icmp .ge o, 3)) (ho : 0 ≤ (pc : Int) + o) (hp : ((pc : Int) + o).toNat = pc') (hn : pc + 3 = pn) (kY : y.toInt ≤ x.toInt → Goes p e below F T (mkF m pc' ls st)) (kN : x.toInt < y.toInt → Goes p e below F T (mkF m pn ls st)) : Goes p e below F T (mkF m pc ls (.int y :: .int x :: st)) :=
  gIcmp X hx hd ho hp hn (fun q => kY (by simpa [if_icmp.holds, Int32.lt_iff_toInt_lt, Int32.le_iff_toInt_le] using q)) (fun q => kN (by simpa [if_icmp.holds, Int32.lt_iff_toInt_lt, Int32.le_iff_toInt_le] using q))
theorem gIfGe (X : Stand p l e R s m args below meth c T locs cells slots) (hx : p.tables.exec = Jvm.exec) {o : Int} {x : Int32} {pn : Nat} (hd : decode c.code pc = .ok (.ifCond .ge o, 3)) (ho : 0 ≤ (pc : Int) + o) (hp : ((pc : Int) + o).toNat = pc') (hn : pc + 3 = pn) (kY : (0 : Int) ≤ x.toInt → Goes p e below F T (mkF m pc' ls st)) (kN : x.toInt < (0 : Int) → Goes p e below F T (mkF m pn ls st)) : Goes p e below F T (mkF m pc ls (.int x :: st)) :=
  gIf X hx hd ho hp hn (fun q => kY (by simpa [ifCond.holds, Int32.lt_iff_toInt_lt, Int32.le_iff_toInt_le] using q)) (fun q => kN (by simpa [ifCond.holds, Int32.lt_iff_toInt_lt, Int32.le_iff_toInt_le] using q))
theorem gIcmpGt (X : Stand p l e R s m args below meth c T locs cells slots) (hx : p.tables.exec = Jvm.exec) {o : Int} {x y : Int32} {pn : Nat} (hd : decode c.code pc = .ok (.if_icmp .gt o, 3)) (ho : 0 ≤ (pc : Int) + o) (hp : ((pc : Int) + o).toNat = pc') (hn : pc + 3 = pn) (kY : y.toInt < x.toInt → Goes p e below F T (mkF m pc' ls st)) (kN : x.toInt ≤ y.toInt → Goes p e below F T (mkF m pn ls st)) : Goes p e below F T (mkF m pc ls (.int y :: .int x :: st)) :=
  gIcmp X hx hd ho hp hn (fun q => kY (by simpa [if_icmp.holds, Int32.lt_iff_toInt_lt, Int32.le_iff_toInt_le] using q)) (fun q => kN (by simpa [if_icmp.holds, Int32.lt_iff_toInt_lt, Int32.le_iff_toInt_le] using q))
theorem gIfGt (X : Stand p l e R s m args below meth c T locs cells slots) (hx : p.tables.exec = Jvm.exec) {o : Int} {x : Int32} {pn : Nat} (hd : decode c.code pc = .ok (.ifCond .gt o, 3)) (ho : 0 ≤ (pc : Int) + o) (hp : ((pc : Int) + o).toNat = pc') (hn : pc + 3 = pn) (kY : (0 : Int) < x.toInt → Goes p e below F T (mkF m pc' ls st)) (kN : x.toInt ≤ (0 : Int) → Goes p e below F T (mkF m pn ls st)) : Goes p e below F T (mkF m pc ls (.int x :: st)) :=
  gIf X hx hd ho hp hn (fun q => kY (by simpa [ifCond.holds, Int32.lt_iff_toInt_lt, Int32.le_iff_toInt_le] using q)) (fun q => kN (by simpa [ifCond.holds, Int32.lt_iff_toInt_lt, Int32.le_iff_toInt_le] using q))
theorem gIcmpLe (X : Stand p l e R s m args below meth c T locs cells slots) (hx : p.tables.exec = Jvm.exec) {o : Int} {x y : Int32} {pn : Nat} (hd : decode c.code pc = .ok (.if_icmp .le o, 3)) (ho : 0 ≤ (pc : Int) + o) (hp : ((pc : Int) + o).toNat = pc') (hn : pc + 3 = pn) (kY : x.toInt ≤ y.toInt → Goes p e below F T (mkF m pc' ls st)) (kN : y.toInt < x.toInt → Goes p e below F T (mkF m pn ls st)) : Goes p e below F T (mkF m pc ls (.int y :: .int x :: st)) :=
  gIcmp X hx hd ho hp hn (fun q => kY (by simpa [if_icmp.holds, Int32.lt_iff_toInt_lt, Int32.le_iff_toInt_le] using q)) (fun q => kN (by simpa [if_icmp.holds, Int32.lt_iff_toInt_lt, Int32.le_iff_toInt_le] using q))
theorem gIfLe (X : Stand p l e R s m args below meth c T locs cells slots) (hx : p.tables.exec = Jvm.exec) {o : Int} {x : Int32} {pn : Nat} (hd : decode c.code pc = .ok (.ifCond .le o, 3)) (ho : 0 ≤ (pc : Int) + o) (hp : ((pc : Int) + o).toNat = pc') (hn : pc + 3 = pn) (kY : x.toInt ≤ (0 : Int) → Goes p e below F T (mkF m pc' ls st)) (kN : (0 : Int) < x.toInt → Goes p e below F T (mkF m pn ls st)) : Goes p e below F T (mkF m pc ls (.int x :: st)) :=
  gIf X hx hd ho hp hn (fun q => kY (by simpa [ifCond.holds, Int32.lt_iff_toInt_lt, Int32.le_iff_toInt_le] using q)) (fun q => kN (by simpa [ifCond.holds, Int32.lt_iff_toInt_lt, Int32.le_iff_toInt_le] using q))
theorem gIcmpEqT (X : Stand p l e R s m args below meth c T locs cells slots) (hx : p.tables.exec = Jvm.exec) {o : Int} {x y : Int32} {pn : Nat} (hd : decode c.code pc = .ok (.if_icmp .eq o, 3)) (ho : 0 ≤ (pc : Int) + o) (hp : ((pc : Int) + o).toNat = pc') (hn : pc + 3 = pn) (kY : x.toInt = y.toInt → Goes p e below F T (mkF m pc' ls st)) (kN : ¬ x.toInt = y.toInt → Goes p e below F T (mkF m pn ls st)) : Goes p e below F T (mkF m pc ls (.int y :: .int x :: st)) :=
  gIcmpEq X hx hd ho hp hn (fun q => kY ((Int32.toInt_inj (x := x) (y := y)).mpr q)) (fun q => kN (fun z => q ((Int32.toInt_inj (x := x) (y := y)).mp z)))
theorem gIfEqT (X : Stand p l e R s m args below meth c T locs cells slots) (hx : p.tables.exec = Jvm.exec) {o : Int} {x : Int32} {pn : Nat} (hd : decode c.code pc = .ok (.ifCond .eq o, 3)) (ho : 0 ≤ (pc : Int) + o) (hp : ((pc : Int) + o).toNat = pc') (hn : pc + 3 = pn) (kY : x.toInt = (0 : Int) → Goes p e below F T (mkF m pc' ls st)) (kN : ¬ x.toInt = (0 : Int) → Goes p e below F T (mkF m pn ls st)) : Goes p e below F T (mkF m pc ls (.int x :: st)) :=
  gIfEq X hx hd ho hp hn (fun q => kY ((Int32.toInt_inj (x := x) (y := 0)).mpr q)) (fun q => kN (fun z => q ((Int32.toInt_inj (x := x) (y := 0)).mp z)))
theorem gIcmpNeT (X : Stand p l e R s m args below meth c T locs cells slots) (hx : p.tables.exec = Jvm.exec) {o : Int} {x y : Int32} {pn : Nat} (hd : decode c.code pc = .ok (.if_icmp .ne o, 3)) (ho : 0 ≤ (pc : Int) + o) (hp : ((pc : Int) + o).toNat = pc') (hn : pc + 3 = pn) (kY : ¬ x.toInt = y.toInt → Goes p e below F T (mkF m pc' ls st)) (kN : x.toInt = y.toInt → Goes p e below F T (mkF m pn ls st)) : Goes p e below F T (mkF m pc ls (.int y :: .int x :: st)) :=
  gIcmpNe X hx hd ho hp hn (fun q => kY (fun z => q ((Int32.toInt_inj (x := x) (y := y)).mp z))) (fun q => kN ((Int32.toInt_inj (x := x) (y := y)).mpr q))
theorem gIfNeT (X : Stand p l e R s m args below meth c T locs cells slots) (hx : p.tables.exec = Jvm.exec) {o : Int} {x : Int32} {pn : Nat} (hd : decode c.code pc = .ok (.ifCond .ne o, 3)) (ho : 0 ≤ (pc : Int) + o) (hp : ((pc : Int) + o).toNat = pc') (hn : pc + 3 = pn) (kY : ¬ x.toInt = (0 : Int) → Goes p e below F T (mkF m pc' ls st)) (kN : x.toInt = (0 : Int) → Goes p e below F T (mkF m pn ls st)) : Goes p e below F T (mkF m pc ls (.int x :: st)) :=
  gIfNe X hx hd ho hp hn (fun q => kY (fun z => q ((Int32.toInt_inj (x := x) (y := 0)).mp z))) (fun q => kN ((Int32.toInt_inj (x := x) (y := 0)).mpr q))
theorem gAcmp (X : Stand p l e R s m args below meth c T locs cells slots) (hx : p.tables.exec = Jvm.exec) {cd : ClassFile.ACond} {o : Int} {x y : Value} {pn : Nat} (hd : decode c.code pc = .ok (.if_acmp cd o, 3)) (h1 : x.isRef = true) (h2 : y.isRef = true) (ho : 0 ≤ (pc : Int) + o) (hp : ((pc : Int) + o).toNat = pc') (hn : pc + 3 = pn) (kS : x = y → Goes p e below F T (mkF m (match cd with | .eq => pc' | .ne => pn) ls st)) (kD : ¬ x = y → Goes p e below F T (mkF m (match cd with | .eq => pn | .ne => pc') ls st)) : Goes p e below F T (mkF m pc ls (y :: x :: st)) := by
  subst hn hp
  by_cases q : x = y
  · refine Goes.fore (fun _ k => acmp X hx rfl h1 h2 (same := true) rfl hd rfl (decide_eq_true q) ho rfl k) ?_
    have := kS q; cases cd <;> simpa [acV] using this
  · refine Goes.fore (fun _ k => acmp X hx rfl h1 h2 (same := false) rfl hd rfl (decide_eq_false q) ho rfl k) ?_
    have := kD q; cases cd <;> simpa [acV] using this
theorem gAcmpEq (X : Stand p l e R s m args below meth c T locs cells slots) (hx : p.tables.exec = Jvm.exec) {o : Int} {x y : Value} {pn : Nat} (hd : decode c.code pc = .ok (.if_acmp .eq o, 3)) (h1 : x.isRef = true) (h2 : y.isRef = true) (ho : 0 ≤ (pc : Int) + o) (hp : ((pc : Int) + o).toNat = pc') (hn : pc + 3 = pn) (kY : x = y → Goes p e below F T (mkF m pc' ls st)) (kN : ¬ x = y → Goes p e below F T (mkF m pn ls st)) : Goes p e below F T (mkF m pc ls (y :: x :: st)) := gAcmp X hx hd h1 h2 ho hp hn kY kN
theorem gAcmpNe (X : Stand p l e R s m args below meth c T locs cells slots) (hx : p.tables.exec = Jvm.exec) {o : Int} {x y : Value} {pn : Nat} (hd : decode c.code pc = .ok (.if_acmp .ne o, 3)) (h1 : x.isRef = true) (h2 : y.isRef = true) (ho : 0 ≤ (pc : Int) + o) (hp : ((pc : Int) + o).toNat = pc') (hn : pc + 3 = pn) (kY : ¬ x = y → Goes p e below F T (mkF m pc' ls st)) (kN : x = y → Goes p e below F T (mkF m pn ls st)) : Goes p e below F T (mkF m pc ls (y :: x :: st)) := gAcmp X hx hd h1 h2 ho hp hn kN kY
theorem gIfnullZ (X : Stand p l e R s m args below meth c T locs cells slots) (hx : p.tables.exec = Jvm.exec) {o : Int} (hd : decode c.code pc = .ok (.ifnull o, 3)) (ho : 0 ≤ (pc : Int) + o) (hp : ((pc : Int) + o).toNat = pc') (k : Goes p e below F T (mkF m pc' ls st)) : Goes p e below F T (mkF m pc ls (.null :: st)) := Goes.fore (fun _ q => XS.ifnullYes X.here hx rfl rfl hd rfl ho hp q) k
theorem gIfnullR (X : Stand p l e R s m args below meth c T locs cells slots) (hx : p.tables.exec = Jvm.exec) {o : Int} {b : Addr} (hd : decode c.code pc = .ok (.ifnull o, 3)) (hp : pc + 3 = pc') (k : Goes p e below F T (mkF m pc' ls st)) : Goes p e below F T (mkF m pc ls (.ref b :: st)) := by
  subst hp; exact Goes.fore (fun _ q => XS.ifnullNo X.here hx rfl hd rfl q) k
theorem gIfnonnullZ (X : Stand p l e R s m args below meth c T locs cells slots) (hx : p.tables.exec = Jvm.exec) {o : Int} (hd : decode c.code pc = .ok (.ifnonnull o, 3)) (hp : pc + 3 = pc') (k : Goes p e below F T (mkF m pc' ls st)) : Goes p e below F T (mkF m pc ls (.null :: st)) := by
  subst hp; exact Goes.fore (fun _ q => XS.ifnonnullNo X.here hx rfl hd rfl q) k
theorem gIfnonnullR (X : Stand p l e R s m args below meth c T locs cells slots) (hx : p.tables.exec = Jvm.exec) {o : Int} {b : Addr} (hd : decode c.code pc = .ok (.ifnonnull o, 3)) (ho : 0 ≤ (pc : Int) + o) (hp : ((pc : Int) + o).toNat = pc') (k : Goes p e below F T (mkF m pc' ls st)) : Goes p e below F T (mkF m pc ls (.ref b :: st)) := Goes.fore (fun _ q => XS.ifnonnullYes X.here hx rfl rfl hd rfl ho hp q) k
theorem gRet0 {v : Option Value} (X : Stand p l e R s m args below meth c T locs cells slots) (hx : p.tables.exec = Jvm.exec) (hlk : meth.locks = false) (hv : meth.sig.returnType = none → v = none) (hk : cells ≤ kc) (hs : slots ≤ ks) (hq : Q v T.heap locs) {g : JFrame}
    (k : ∀ fs, (∀ (f : JFrame) (acts : List Action), f.method = m → f.locked = none → f.entered = [] → (doReturn e (T.setTop f) acts v).1 = T.setFrames fs) → Steps p.tables e below (T.setTop g) (T.setFrames fs)) : Goes p e below (FinN s kc ks Q) T g := by
  obtain ⟨fs, hr, hrun, hended, hW, hsame⟩ := X.leave hv hlk
  exact ⟨_, _, k fs hr, hrun, hended, _, _, rfl, hq, ⟨_, rfl⟩, hW, hsame.mono hk hs⟩
theorem gRetV (X : Stand p l e R s m args below meth c T locs cells slots) (hx : p.tables.exec = Jvm.exec) (hlk : meth.locks = false) (hret : meth.sig.returnType = none) (hd : decode c.code pc = .ok (.return_, 1)) (hk : cells ≤ kc) (hs : slots ≤ ks) (hq : Q none T.heap locs) : Goes p e below (FinN s kc ks Q) T (mkF m pc ls []) :=
  gRet0 X hx hlk (fun _ => rfl) hk hs hq fun fs hr => X.returnOut hx hret hd hr
theorem gRetN (X : Stand p l e R s m args below meth c T locs cells slots) (hx : p.tables.exec = Jvm.exec) (hlk : meth.locks = false) {t : FieldType} (hret : meth.sig.returnType = some t) (ht : t = .boolean ∨ t = .byte ∨ t = .char ∨ t = .short) {z w : Int32} (hd : decode c.code pc = .ok (.ireturn, 1)) (hw : nar t z = w) (hk : cells ≤ kc) (hs : slots ≤ ks) (hq : Q (some (.int w)) T.heap locs) : Goes p e below (FinN s kc ks Q) T (mkF m pc ls (.int z :: st)) := by
  subst hw
  exact gRet0 X hx hlk (fun h => by rw [hret] at h; cases h) hk hs hq fun fs hr => retN X hx hret ht hd hr
theorem gRetI (X : Stand p l e R s m args below meth c T locs cells slots) (hx : p.tables.exec = Jvm.exec) (hlk : meth.locks = false) (hret : meth.sig.returnType = some .int) {z : Int32} (hd : decode c.code pc = .ok (.ireturn, 1)) (hk : cells ≤ kc) (hs : slots ≤ ks) (hq : Q (some (.int z)) T.heap locs) : Goes p e below (FinN s kc ks Q) T (mkF m pc ls (.int z :: st)) :=
  gRet0 X hx hlk (fun h => by rw [hret] at h; cases h) hk hs hq fun fs hr => retOut X hx hret rfl (Or.inl ⟨rfl, Or.inl rfl, z, rfl⟩) hd hr
theorem gRetJ (X : Stand p l e R s m args below meth c T locs cells slots) (hx : p.tables.exec = Jvm.exec) (hlk : meth.locks = false) (hret : meth.sig.returnType = some .long) {z : Int64} (hd : decode c.code pc = .ok (.lreturn, 1)) (hk : cells ≤ kc) (hs : slots ≤ ks) (hq : Q (some (.long z)) T.heap locs) : Goes p e below (FinN s kc ks Q) T (mkF m pc ls (.long z :: st)) :=
  gRet0 X hx hlk (fun h => by rw [hret] at h; cases h) hk hs hq fun fs hr => retOut X hx hret rfl (Or.inr (Or.inl ⟨rfl, rfl, z, rfl⟩)) hd hr
theorem gRetA (X : Stand p l e R s m args below meth c T locs cells slots) (hx : p.tables.exec = Jvm.exec) (hlk : meth.locks = false) {t : FieldType} (hret : meth.sig.returnType = some t) (ht : t.isReference = true) {v : Value} (hv : v.isRef = true) (hd : decode c.code pc = .ok (.areturn, 1)) (hk : cells ≤ kc) (hs : slots ≤ ks) (hq : Q (some v) T.heap locs) : Goes p e below (FinN s kc ks Q) T (mkF m pc ls (v :: st)) :=
  gRet0 X hx hlk (fun h => by rw [hret] at h; cases h) hk hs hq fun fs hr => retOut X hx hret (by cases t <;> first | rfl | cases ht) (Or.inr (Or.inr (Or.inr (Or.inr ⟨rfl, ht, hv⟩)))) hd hr
theorem gGetS (X : Stand p l e R s m args below meth c T locs cells slots) (hx : p.tables.exec = Jvm.exec) (hZ : Z.Warmed39 s.vm) {own R0 O n d : String} {i : Nat} (hown : s.vm.findClass own = some m.cls) (w : (Jvm.Cond.fieldLink own i R0 n d).before a0 Z = true) (via : Via Z R0 O n d) (eT : T.heap = h) {v : Value} (Fa : Sta Z h O n d v) (hd : decode c.code pc = .ok (.getstatic i, 3)) (hp : pc + 3 = pc')
    (k : ∀ T', Stand p l e R s m args below meth c T' locs cells slots → T'.heap = h → Goes p e below F T' (mkF m pc' ls (v :: st))) : Goes p e below F T (mkF m pc ls st) := by
  subst hp
  obtain ⟨T', X', e', st'⟩ := getS X hx hZ (host := "") hown w via eT Fa (g := mkF m pc ls st) rfl hd
  exact Goes.fore st' (k T' X' e')
theorem gGetF (X : Stand p l e R s m args below meth c T locs cells slots) (hx : p.tables.exec = Jvm.exec) (hZ : Z.Warmed39 s.vm) {own R0 O n d : String} {i : Nat} (hown : s.vm.findClass own = some m.cls) (w : (Jvm.Cond.fieldLink own i R0 n d).before a0 Z = true) (via : Via Z R0 O n d) (eT : T.heap = h) {a : Addr} {v : Value} (Fa : Fld Z h a O n d v) (hd : decode c.code pc = .ok (.getfield i, 3)) (hp : pc + 3 = pc')
    (k : ∀ T', Stand p l e R s m args below meth c T' locs cells slots → T'.heap = h → Goes p e below F T' (mkF m pc' ls (v :: st))) : Goes p e below F T (mkF m pc ls (.ref a :: st)) := by
  subst hp
  obtain ⟨T', X', e', st'⟩ := getF X hx hZ (host := "") hown (Or.inl w) via eT Fa (g := mkF m pc ls (.ref a :: st)) rfl rfl hd
  exact Goes.fore st' (k T' X' e')
theorem gCallS (X : Stand p l e R s m args below meth c T locs cells slots) (hx : p.tables.exec = Jvm.exec) (hZ : Z.Warmed39 s.vm) {y : MethodName} {bytes : ByteArray} {maxL : Nat} {ret : Option FieldType} {rm : Room} {own : String} {i : Nat} {Qc : Option Value → Heap → List Loc → Prop} (hown : s.vm.findClass own = some m.cls) (eT : T.heap = h) (hml : ls.size = c.maxLocals)
    (w1 : (Jvm.Cond.methodLink own i y).before a0 Z = true) (w2 : (Jvm.Cond.static y).before a0 Z = true) (w3 : (Jvm.Cond.initialized y.cls).before a0 Z = true) (w4 : (Jvm.Cond.code y bytes maxL ret).before a0 Z = true) (hy : y.cls ≠ "java/lang/invoke/MethodHandle" ∧ y.cls ≠ "java/lang/invoke/VarHandle")
    {argsL : List Value} {stk : List Value} (hC : Ctr l Z y bytes maxL ret [] rm argsL.toArray h Qc) (hlen : ∀ sig, parseMethodDescriptor y.desc = some sig → argsL.length = sig.parameters.length) (hd : decode c.code pc = .ok (.invokestatic i, 3)) (hp : pc + 3 = pc') (hst : stk = argsL.reverse ++ st)
    (hf : rm.frames + 1 ≤ R.frames) {W : Nat} (hW : (st.map fun v => v.category).sum ≤ W) (hlo : W + (maxL + 11) + rm.locals ≤ R.locals) (hce : cells + rm.cells ≤ R.cells) (hsl : slots + rm.slots ≤ R.slots)
    (k : ∀ T' v L, Stand p l e R s m args below meth c T' (locs ++ L) (cells + rm.cells) (slots + rm.slots) → Qc v T'.heap L → Goes p e below F T' (mkF m pc' ls (v.toList ++ st))) : Goes p e below F T (mkF m pc ls stk) := by
  subst hp hst
  obtain ⟨v, _, ⟨T', L', k', n'⟩, -, X', ⟨Lc, hQ, l1, y1, z1⟩, st'⟩ := Jvm.LawKit.callS X hx (y := y) hown (mvT hZ w1) (mvT hZ w2) (mvT hZ w3) (mvT hZ w4) hy (backOf (W := W) hC hZ w4 w3 hf hlo) (g := mkF m pc ls (argsL.reverse ++ st)) rfl hml (argsL := argsL) (rest := st) hlen rfl (by show 2 * 0 + _ ≤ _; omega) hd (fun _ _ => ⟨rfl, eT, hce, hsl⟩)
  dsimp only [Pt.U, Pt.locs, Pt.cells, Pt.slots] at X' l1 y1 z1 st' hQ
  subst l1 y1 z1
  exact Goes.fore st' (k T' v Lc X' hQ)
theorem gCallSJ (X : Stand p l e R s m args below meth c T locs cells slots) (hx : p.tables.exec = Jvm.exec) (hZ : Z.Warmed39 s.vm) {y : MethodName} {bytes : ByteArray} {maxL : Nat} {ret : Option FieldType} {rm : Room} {own : String} {i : Nat} {w : Value} (hown : s.vm.findClass own = some m.cls) (eT : T.heap = h) (hml : ls.size = c.maxLocals)
    (w1 : (Jvm.Cond.methodLink own i y).before a0 Z = true) (w2 : (Jvm.Cond.static y).before a0 Z = true) (w3 : (Jvm.Cond.initialized y.cls).before a0 Z = true) (w4 : (Jvm.Cond.code y bytes maxL ret).before a0 Z = true) (hy : y.cls ≠ "java/lang/invoke/MethodHandle" ∧ y.cls ≠ "java/lang/invoke/VarHandle")
    {argsL : List Value} {stk : List Value} (hC : Ctr l Z y bytes maxL ret [] rm argsL.toArray h (Just h w)) (hlen : ∀ sig, parseMethodDescriptor y.desc = some sig → argsL.length = sig.parameters.length) (hd : decode c.code pc = .ok (.invokestatic i, 3)) (hp : pc + 3 = pc') (hst : stk = argsL.reverse ++ st)
    (h0c : rm.cells = 0) (h0s : rm.slots = 0) (hf : rm.frames + 1 ≤ R.frames) {W : Nat} (hW : (st.map fun v => v.category).sum ≤ W) (hlo : W + (maxL + 11) + rm.locals ≤ R.locals) (hce : cells + rm.cells ≤ R.cells) (hsl : slots + rm.slots ≤ R.slots)
    (k : ∀ T', Stand p l e R s m args below meth c T' locs cells slots → T'.heap = h → Goes p e below F T' (mkF m pc' ls (w :: st))) : Goes p e below F T (mkF m pc ls stk) := by
  refine gCallS X hx hZ hown eT hml w1 w2 w3 w4 hy hC hlen hd hp hst hf hW hlo hce hsl ?_
  rintro T' v L X' ⟨rfl, e', rfl⟩
  rw [List.append_nil, h0c, h0s] at X'
  exact k T' X' e'
theorem gCallV (X : Stand p l e R s m args below meth c T locs cells slots) (hx : p.tables.exec = Jvm.exec) (hZ : Z.Warmed39 s.vm) {y : MethodName} {bytes : ByteArray} {maxL : Nat} {ret : Option FieldType} {rm : Room} {own : String} {i : Nat} {Qc : Option Value → Heap → List Loc → Prop} {C : String} {a : Addr} (hown : s.vm.findClass own = some m.cls) (eT : T.heap = h) (hml : ls.size = c.maxLocals) (E : Exa Z h a C)
    (w1 : (Jvm.Cond.methodLink own i y).before a0 Z = true) (w2 : (Jvm.Cond.declares y).before a0 Z = true) (w5 : (Jvm.Cond.selects C y y).before a0 Z = true) (w6 : (Jvm.Cond.instanceMethod y).before a0 Z = true) (w3 : (Jvm.Cond.initialized y.cls).before a0 Z = true) (w4 : (Jvm.Cond.code y bytes maxL ret).before a0 Z = true) (hy : y.cls ≠ "java/lang/invoke/MethodHandle" ∧ y.cls ≠ "java/lang/invoke/VarHandle")
    {argsL : List Value} {stk : List Value} (hC : Ctr l Z y bytes maxL ret [] rm (.ref a :: argsL).toArray h Qc) (hlen : ∀ sig, parseMethodDescriptor y.desc = some sig → argsL.length = sig.parameters.length) (hd : decode c.code pc = .ok (.invokevirtual i, 3)) (hp : pc + 3 = pc') (hst : stk = argsL.reverse ++ .ref a :: st)
    (hf : rm.frames + 1 ≤ R.frames) {W : Nat} (hW : (st.map fun v => v.category).sum ≤ W) (hlo : W + (maxL + 11) + rm.locals ≤ R.locals) (hce : cells + rm.cells ≤ R.cells) (hsl : slots + rm.slots ≤ R.slots)
    (k : ∀ T' v L, Stand p l e R s m args below meth c T' (locs ++ L) (cells + rm.cells) (slots + rm.slots) → Qc v T'.heap L → Goes p e below F T' (mkF m pc' ls (v.toList ++ st))) : Goes p e below F T (mkF m pc ls stk) := by
  subst hp hst
  obtain ⟨cq, kq, qa, qb, qc⟩ := isOf hZ eT E
  obtain ⟨v, _, ⟨T', L', k', n'⟩, -, X', ⟨Lc, hQ, l1, y1, z1⟩, st'⟩ := X.virtualBack hx (y := y) (z := y) hown (mvT hZ w1) (mvT hZ w2) (notFace_of_selects (args := #[]) (mvT hZ w5)) (mvT hZ w5) (mvT hZ w6) hy (backOf (W := W) hC hZ w4 w3 hf hlo) qa qc (g := mkF m pc ls (argsL.reverse ++ .ref a :: st)) rfl hml (Steps.refl _) (argsL := argsL) (rest := st) hlen rfl (by show 2 * 0 + _ ≤ _; omega) hd (fun _ _ => ⟨rfl, eT, hce, hsl⟩)
  dsimp only [Pt.U, Pt.locs, Pt.cells, Pt.slots] at X' l1 y1 z1 st' hQ
  subst l1 y1 z1
  exact Goes.tr st' (k T' v Lc X' hQ)
theorem gCallVJ (X : Stand p l e R s m args below meth c T locs cells slots) (hx : p.tables.exec = Jvm.exec) (hZ : Z.Warmed39 s.vm) {y : MethodName} {bytes : ByteArray} {maxL : Nat} {ret : Option FieldType} {rm : Room} {own : String} {i : Nat} {w : Value} {C : String} {a : Addr} (hown : s.vm.findClass own = some m.cls) (eT : T.heap = h) (hml : ls.size = c.maxLocals) (E : Exa Z h a C)
    (w1 : (Jvm.Cond.methodLink own i y).before a0 Z = true) (w2 : (Jvm.Cond.declares y).before a0 Z = true) (w5 : (Jvm.Cond.selects C y y).before a0 Z = true) (w6 : (Jvm.Cond.instanceMethod y).before a0 Z = true) (w3 : (Jvm.Cond.initialized y.cls).before a0 Z = true) (w4 : (Jvm.Cond.code y bytes maxL ret).before a0 Z = true) (hy : y.cls ≠ "java/lang/invoke/MethodHandle" ∧ y.cls ≠ "java/lang/invoke/VarHandle")
    {argsL : List Value} {stk : List Value} (hC : Ctr l Z y bytes maxL ret [] rm (.ref a :: argsL).toArray h (Just h w)) (hlen : ∀ sig, parseMethodDescriptor y.desc = some sig → argsL.length = sig.parameters.length) (hd : decode c.code pc = .ok (.invokevirtual i, 3)) (hp : pc + 3 = pc') (hst : stk = argsL.reverse ++ .ref a :: st)
    (h0c : rm.cells = 0) (h0s : rm.slots = 0) (hf : rm.frames + 1 ≤ R.frames) {W : Nat} (hW : (st.map fun v => v.category).sum ≤ W) (hlo : W + (maxL + 11) + rm.locals ≤ R.locals) (hce : cells + rm.cells ≤ R.cells) (hsl : slots + rm.slots ≤ R.slots)
    (k : ∀ T', Stand p l e R s m args below meth c T' locs cells slots → T'.heap = h → Goes p e below F T' (mkF m pc' ls (w :: st))) : Goes p e below F T (mkF m pc ls stk) := by
  refine gCallV X hx hZ hown eT hml E w1 w2 w5 w6 w3 w4 hy hC hlen hd hp hst hf hW hlo hce hsl ?_
  rintro T' v L X' ⟨rfl, e', rfl⟩
  rw [List.append_nil, h0c, h0s] at X'
  exact k T' X' e'
theorem gLIfEq (X : Stand p l e R s m args below meth c T locs cells slots) (hx : p.tables.exec = Jvm.exec) {o : Int} {x y : Int64} {pn : Nat} (hd : decode c.code pc = .ok (.ifCond .eq o, 3)) (ho : 0 ≤ (pc : Int) + o) (hp : ((pc : Int) + o).toNat = pc') (hn : pc + 3 = pn) (kY : x = y → Goes p e below F T (mkF m pc' ls st)) (kN : ¬ x = y → Goes p e below F T (mkF m pn ls st)) : Goes p e below F T (mkF m pc ls (.int (lcmpW x y) :: st)) := by
  have z := lw_eq x y
  refine gIf X hx hd ho hp hn (fun q => kY ?_) (fun q => kN ?_) <;> simp only [ifCond.holds, decide_eq_true_eq, decide_eq_false_iff_not, beq_iff_eq, bne_iff_ne, Int32.not_lt, Int32.not_le, Int32.lt_iff_toInt_lt, Int32.le_iff_toInt_le, Int64.lt_iff_toInt_lt, ← Int32.toInt_inj, beq_eq_false_iff_ne, bne_eq_false_iff_eq, ne_eq] at q z ⊢ <;> first | exact z.mp q | exact fun k => q (z.mpr k) | omega
theorem gLIfNe (X : Stand p l e R s m args below meth c T locs cells slots) (hx : p.tables.exec = Jvm.exec) {o : Int} {x y : Int64} {pn : Nat} (hd : decode c.code pc = .ok (.ifCond .ne o, 3)) (ho : 0 ≤ (pc : Int) + o) (hp : ((pc : Int) + o).toNat = pc') (hn : pc + 3 = pn) (kY : ¬ x = y → Goes p e below F T (mkF m pc' ls st)) (kN : x = y → Goes p e below F T (mkF m pn ls st)) : Goes p e below F T (mkF m pc ls (.int (lcmpW x y) :: st)) := by
  have z := lw_eq x y
  refine gIf X hx hd ho hp hn (fun q => kY ?_) (fun q => kN ?_) <;> simp only [ifCond.holds, decide_eq_true_eq, decide_eq_false_iff_not, beq_iff_eq, bne_iff_ne, Int32.not_lt, Int32.not_le, Int32.lt_iff_toInt_lt, Int32.le_iff_toInt_le, Int64.lt_iff_toInt_lt, ← Int32.toInt_inj, beq_eq_false_iff_ne, bne_eq_false_iff_eq, ne_eq] at q z ⊢ <;> first | exact z.mp q | exact fun k => q (z.mpr k) | omega
theorem gLIfLt (X : Stand p l e R s m args below meth c T locs cells slots) (hx : p.tables.exec = Jvm.exec) {o : Int} {x y : Int64} {pn : Nat} (hd : decode c.code pc = .ok (.ifCond .lt o, 3)) (ho : 0 ≤ (pc : Int) + o) (hp : ((pc : Int) + o).toNat = pc') (hn : pc + 3 = pn) (kY : x.toInt < y.toInt → Goes p e below F T (mkF m pc' ls st)) (kN : y.toInt ≤ x.toInt → Goes p e below F T (mkF m pn ls st)) : Goes p e below F T (mkF m pc ls (.int (lcmpW x y) :: st)) := by
  have z := lw_lt x y
  refine gIf X hx hd ho hp hn (fun q => kY ?_) (fun q => kN ?_) <;> simp only [ifCond.holds, decide_eq_true_eq, decide_eq_false_iff_not, beq_iff_eq, bne_iff_ne, Int32.not_lt, Int32.not_le, Int32.lt_iff_toInt_lt, Int32.le_iff_toInt_le, Int64.lt_iff_toInt_lt, ← Int32.toInt_inj, beq_eq_false_iff_ne, bne_eq_false_iff_eq, ne_eq] at q z ⊢ <;> first | exact z.mp q | exact fun k => q (z.mpr k) | omega
theorem gLIfGe (X : Stand p l e R s m args below meth c T locs cells slots) (hx : p.tables.exec = Jvm.exec) {o : Int} {x y : Int64} {pn : Nat} (hd : decode c.code pc = .ok (.ifCond .ge o, 3)) (ho : 0 ≤ (pc : Int) + o) (hp : ((pc : Int) + o).toNat = pc') (hn : pc + 3 = pn) (kY : y.toInt ≤ x.toInt → Goes p e below F T (mkF m pc' ls st)) (kN : x.toInt < y.toInt → Goes p e below F T (mkF m pn ls st)) : Goes p e below F T (mkF m pc ls (.int (lcmpW x y) :: st)) := by
  have z := lw_lt x y
  refine gIf X hx hd ho hp hn (fun q => kY ?_) (fun q => kN ?_) <;> simp only [ifCond.holds, decide_eq_true_eq, decide_eq_false_iff_not, beq_iff_eq, bne_iff_ne, Int32.not_lt, Int32.not_le, Int32.lt_iff_toInt_lt, Int32.le_iff_toInt_le, Int64.lt_iff_toInt_lt, ← Int32.toInt_inj, beq_eq_false_iff_ne, bne_eq_false_iff_eq, ne_eq] at q z ⊢ <;> first | exact z.mp q | exact fun k => q (z.mpr k) | omega
theorem gLIfGt (X : Stand p l e R s m args below meth c T locs cells slots) (hx : p.tables.exec = Jvm.exec) {o : Int} {x y : Int64} {pn : Nat} (hd : decode c.code pc = .ok (.ifCond .gt o, 3)) (ho : 0 ≤ (pc : Int) + o) (hp : ((pc : Int) + o).toNat = pc') (hn : pc + 3 = pn) (kY : y.toInt < x.toInt → Goes p e below F T (mkF m pc' ls st)) (kN : x.toInt ≤ y.toInt → Goes p e below F T (mkF m pn ls st)) : Goes p e below F T (mkF m pc ls (.int (lcmpW x y) :: st)) := by
  have z := lw_gt x y
  refine gIf X hx hd ho hp hn (fun q => kY ?_) (fun q => kN ?_) <;> simp only [ifCond.holds, decide_eq_true_eq, decide_eq_false_iff_not, beq_iff_eq, bne_iff_ne, Int32.not_lt, Int32.not_le, Int32.lt_iff_toInt_lt, Int32.le_iff_toInt_le, Int64.lt_iff_toInt_lt, ← Int32.toInt_inj, beq_eq_false_iff_ne, bne_eq_false_iff_eq, ne_eq] at q z ⊢ <;> first | exact z.mp q | exact fun k => q (z.mpr k) | omega
theorem gLIfLe (X : Stand p l e R s m args below meth c T locs cells slots) (hx : p.tables.exec = Jvm.exec) {o : Int} {x y : Int64} {pn : Nat} (hd : decode c.code pc = .ok (.ifCond .le o, 3)) (ho : 0 ≤ (pc : Int) + o) (hp : ((pc : Int) + o).toNat = pc') (hn : pc + 3 = pn) (kY : x.toInt ≤ y.toInt → Goes p e below F T (mkF m pc' ls st)) (kN : y.toInt < x.toInt → Goes p e below F T (mkF m pn ls st)) : Goes p e below F T (mkF m pc ls (.int (lcmpW x y) :: st)) := by
  have z := lw_gt x y
  refine gIf X hx hd ho hp hn (fun q => kY ?_) (fun q => kN ?_) <;> simp only [ifCond.holds, decide_eq_true_eq, decide_eq_false_iff_not, beq_iff_eq, bne_iff_ne, Int32.not_lt, Int32.not_le, Int32.lt_iff_toInt_lt, Int32.le_iff_toInt_le, Int64.lt_iff_toInt_lt, ← Int32.toInt_inj, beq_eq_false_iff_ne, bne_eq_false_iff_eq, ne_eq] at q z ⊢ <;> first | exact z.mp q | exact fun k => q (z.mpr k) | omega
theorem gNew (X : Stand p l e R s m args below meth c T locs cells slots) (hx : p.tables.exec = Jvm.exec) (hZ : Z.Warmed39 s.vm) {own C : String} {i n : Nat} (hown : s.vm.findClass own = some m.cls) (w : (Jvm.Cond.classLink own i C).before a0 Z = true) (wi : (Jvm.Cond.instantiable C n).before a0 Z = true) (wz : (Jvm.Cond.initialized C).before a0 Z = true) (eT : T.heap = h) (hd : decode c.code pc = .ok (.new i, 3)) (hp : pc + 3 = pc') (hc : cells + 1 ≤ R.cells) (hl : slots + n ≤ R.slots)
    (k : ∀ T' h' b, Stand p l e R s m args below meth c T' locs (cells + 1) (slots + n) → T'.heap = h' → b = h.size → Ext h h' → Exa Z h' b C → (∀ {O nm d : String} {ty : FieldType}, Laid Z a0 C O nm d → parseFieldDescriptor d = some ty → Fld Z h' b O nm d (defaultValue ty)) → Goes p e below F T' (mkF m pc' ls (.ref b :: st))) : Goes p e below F T (mkF m pc ls st) := by
  subst hp
  obtain ⟨T', h', X', e', E, A, D, -, st'⟩ := newO X hx hZ hown w wi wz eT (g := mkF m pc ls st) rfl hd hc hl
  exact Goes.fore st' (k T' h' _ X' e' rfl E A D)
theorem gPutF (X : Stand p l e R s m args below meth c T locs cells slots) (hx : p.tables.exec = Jvm.exec) (hZ : Z.Warmed39 s.vm) {own R0 O n d C : String} {i kk : Nat} {ty : FieldType} (hown : s.vm.findClass own = some m.cls) (w : (Jvm.Cond.fieldLink own i R0 n d).before a0 Z = true) (via : Via Z R0 O n d) (eT : T.heap = h) {a : Addr} {v old : Value} (Fa : Fld Z h a O n d old) (E : Exa Z h a C) (L : (Jvm.Cond.lays C O n d).before a0 Z = true ∨ ((Jvm.Cond.laysFinal C O n d).before a0 Z = true ∧ own = O ∧ meth.name = "<init>")) (wi : (Jvm.Cond.instantiable C kk).before a0 Z = true)
    (hty : parseFieldDescriptor d = some ty) (hn : narrow ty v = v) (hf : fits ty v = true) (hd : decode c.code pc = .ok (.putfield i, 3)) (hp : pc + 3 = pc')
    (k : ∀ T' h', Stand p l e R s m args below meth c T' (locs ++ [⟨a, RoadKit.slotOf Z O n d⟩]) cells slots → T'.heap = h' → Wr h h' a (RoadKit.slotOf Z O n d) v → Goes p e below F T' (mkF m pc' ls st)) : Goes p e below F T (mkF m pc ls (v :: .ref a :: st)) := by
  subst hp
  obtain ⟨T', h', X', e', W, st'⟩ := putF X hx hZ (host := "") hown (Or.inl w) via eT Fa E L wi hty hn hf (g := mkF m pc ls (v :: .ref a :: st)) rfl rfl hd
  exact Goes.fore st' (k T' h' X' e' W)
theorem gInitO (X : Stand p l e R s m args below meth c T locs cells slots) (hx : p.tables.exec = Jvm.exec) (hZ : Z.Warmed39 s.vm) {own : String} {i : Nat} (hown : s.vm.findClass own = some m.cls) (w1 : (Jvm.Cond.methodLink own i Lib.objectInit).before a0 Z = true) (w2 : (Jvm.Cond.instanceMethod Lib.objectInit).before a0 Z = true) (w3 : (Jvm.Cond.code Lib.objectInit ⟨#[0xb1]⟩ 1 none).before a0 Z = true) (eT : T.heap = h) (hml : ls.size = c.maxLocals) {a : Addr} (hd : decode c.code pc = .ok (.invokespecial i, 3)) (hp : pc + 3 = pc') (hf : 1 ≤ R.frames) {W : Nat} (hW : (st.map fun v => v.category).sum ≤ W) (hl : W + 12 ≤ R.locals)
    (k : ∀ T', Stand p l e R s m args below meth c T' locs cells slots → T'.heap = h → Goes p e below F T' (mkF m pc' ls st)) : Goes p e below F T (mkF m pc ls (.ref a :: st)) := by
  subst hp
  obtain ⟨T', X', e', st'⟩ := initO X hx hZ hown w1 w2 w3 eT (g := mkF m pc ls (.ref a :: st)) rfl hml rfl hd hf (W := W) (by show 2 * 0 + _ ≤ _; omega) hl
  exact Goes.fore st' (k T' X' e')
theorem gCallI (X : Stand p l e R s m args below meth c T locs cells slots) (hx : p.tables.exec = Jvm.exec) (hZ : Z.Warmed39 s.vm) {y : MethodName} {bytes : ByteArray} {maxL : Nat} {rm : Room} {own : String} {i : Nat} {Qc : Option Value → Heap → List Loc → Prop} {a : Addr} (hy1 : y.name = "<init>") (hown : s.vm.findClass own = some m.cls) (eT : T.heap = h) (hml : ls.size = c.maxLocals)
    (w1 : (Jvm.Cond.methodLink own i y).before a0 Z = true) (w2 : (Jvm.Cond.instanceMethod y).before a0 Z = true) (w3 : (Jvm.Cond.initialized y.cls).before a0 Z = true) (w4 : (Jvm.Cond.code y bytes maxL none).before a0 Z = true) (hy : y.cls ≠ "java/lang/invoke/MethodHandle" ∧ y.cls ≠ "java/lang/invoke/VarHandle")
    {argsL : List Value} {stk : List Value} (hC : Ctr l Z y bytes maxL none [] rm (.ref a :: argsL).toArray h Qc) (hlen : ∀ sig, parseMethodDescriptor y.desc = some sig → argsL.length = sig.parameters.length) (hd : decode c.code pc = .ok (.invokespecial i, 3)) (hp : pc + 3 = pc') (hst : stk = argsL.reverse ++ .ref a :: st)
    (hf : rm.frames + 1 ≤ R.frames) {W : Nat} (hW : (st.map fun v => v.category).sum ≤ W) (hlo : W + (maxL + 11) + rm.locals ≤ R.locals) (hce : cells + rm.cells ≤ R.cells) (hsl : slots + rm.slots ≤ R.slots)
    (k : ∀ T' v L, Stand p l e R s m args below meth c T' (locs ++ L) (cells + rm.cells) (slots + rm.slots) → Qc v T'.heap L → Goes p e below F T' (mkF m pc' ls (v.toList ++ st))) : Goes p e below F T (mkF m pc ls stk) := by
  subst hp hst
  obtain ⟨v, _, ⟨T', L', k', n'⟩, -, X', ⟨Lc, hQ, l1, y1, z1⟩, st'⟩ := X.specialBack hx (y := y) hy1 hown (mvT hZ w1) (mvT hZ w2) (mvT hZ w4) hy (backOf (W := W) hC hZ w4 w3 hf hlo) (g := mkF m pc ls (argsL.reverse ++ .ref a :: st)) rfl hml (Steps.refl _) (a := a) (argsL := argsL) (rest := st) hlen rfl (by show 2 * 0 + _ ≤ _; omega) hd (fun _ _ => ⟨rfl, eT, hce, hsl⟩)
  dsimp only [Pt.U, Pt.locs, Pt.cells, Pt.slots] at X' l1 y1 z1 st' hQ
  subst l1 y1 z1
  exact Goes.tr st' (k T' v Lc X' hQ)
end OwnLayer
/-- a boolean as the machine holds it -/
def b2i (b : Bool) : Int32 := if b then 1 else 0
theorem b2_t {P : Prop} [Decidable P] (h : P) : b2i (decide P) = 1 := by simp [b2i, h]
theorem b2_f {P : Prop} [Decidable P] (h : ¬ P) : b2i (decide P) = 0 := by simp [b2i, h]
theorem b2_0 {b : Bool} : b2i b = 0 ↔ b = false := by cases b <;> simp [b2i]
theorem b2_n0 {b : Bool} : ¬ b2i b = 0 ↔ b = true := by cases b <;> simp [b2i]
theorem b2_inj {a b : Bool} : b2i a = b2i b ↔ a = b := by cases a <;> cases b <;> simp [b2i]
theorem b2_nar {b : Bool} : nar .boolean (b2i b) = b2i b := by cases b <;> rfl
theorem just_t {h0 h : Heap} {P : Prop} [Decidable P] (q : P) (e : h = h0) : Just h0 (.int (b2i (decide P))) (some (.int 1)) h [] := ⟨by rw [b2_t q], e, rfl⟩
theorem just_f {h0 h : Heap} {P : Prop} [Decidable P] (q : ¬ P) (e : h = h0) : Just h0 (.int (b2i (decide P))) (some (.int 0)) h [] := ⟨by rw [b2_f q], e, rfl⟩
/-- the law returns 1; what it wrote is new -/
def Law1 (h0 : Heap) (v : Option Value) (h : Heap) (L : List Loc) : Prop := v = some (.int 1) ∧ Fr h0.size L
theorem own_fv {args : Array Value} {s : State} {t r : Term} {a : Addr} {w : Value} {C n d : String} (ht : t.eval args s none [] s = some (.ref a)) (h : (Jvm.Cond.eq (.field t C n d) r).value args s none s [] = some true) (hr : r.eval args s none [] s = some w) : s.fieldOf? a C n d = some w := by
  have e := fld_at (C := C) (n := n) (dd := d) ht
  simp only [Cond.value, e, hr] at h
  cases hv : s.fieldOf? a C n d with
  | none => rw [hv] at h; simp at h
  | some u =>
    rw [hv] at h
    cases u <;> cases w <;> simp_all
def Known (Z : State) (h0 : Heap) (a_P a_UNLOCK a_V a_LOCK a_V_BLOCKED a_TRY_P_FAILED a_LOCK_BLOCKED a_P_BLOCKED a_TRY_LOCK_FAILED : Addr) : Prop := Sta Z h0 "com/example/signalbox/signalbox/runtime/Event" "P" "Lcom/example/signalbox/signalbox/runtime/Event;" (.ref a_P) ∧ Sta Z h0 "com/example/signalbox/signalbox/runtime/Event" "UNLOCK" "Lcom/example/signalbox/signalbox/runtime/Event;" (.ref a_UNLOCK) ∧ Sta Z h0 "com/example/signalbox/signalbox/runtime/Event" "V" "Lcom/example/signalbox/signalbox/runtime/Event;" (.ref a_V) ∧ Sta Z h0 "com/example/signalbox/signalbox/runtime/Event" "LOCK" "Lcom/example/signalbox/signalbox/runtime/Event;" (.ref a_LOCK) ∧ Sta Z h0 "com/example/signalbox/signalbox/runtime/Event" "V_BLOCKED" "Lcom/example/signalbox/signalbox/runtime/Event;" (.ref a_V_BLOCKED) ∧ Sta Z h0 "com/example/signalbox/signalbox/runtime/Event" "TRY_P_FAILED" "Lcom/example/signalbox/signalbox/runtime/Event;" (.ref a_TRY_P_FAILED) ∧ Sta Z h0 "com/example/signalbox/signalbox/runtime/Event" "LOCK_BLOCKED" "Lcom/example/signalbox/signalbox/runtime/Event;" (.ref a_LOCK_BLOCKED) ∧ Sta Z h0 "com/example/signalbox/signalbox/runtime/Event" "P_BLOCKED" "Lcom/example/signalbox/signalbox/runtime/Event;" (.ref a_P_BLOCKED) ∧ Sta Z h0 "com/example/signalbox/signalbox/runtime/Event" "TRY_LOCK_FAILED" "Lcom/example/signalbox/signalbox/runtime/Event;" (.ref a_TRY_LOCK_FAILED) ∧ Exa Z h0 a_P "com/example/signalbox/signalbox/runtime/Event" ∧ Exa Z h0 a_UNLOCK "com/example/signalbox/signalbox/runtime/Event" ∧ Exa Z h0 a_V "com/example/signalbox/signalbox/runtime/Event" ∧ Exa Z h0 a_LOCK "com/example/signalbox/signalbox/runtime/Event" ∧ Exa Z h0 a_V_BLOCKED "com/example/signalbox/signalbox/runtime/Event" ∧ Exa Z h0 a_TRY_P_FAILED "com/example/signalbox/signalbox/runtime/Event" ∧ Exa Z h0 a_LOCK_BLOCKED "com/example/signalbox/signalbox/runtime/Event" ∧ Exa Z h0 a_P_BLOCKED "com/example/signalbox/signalbox/runtime/Event" ∧ Exa Z h0 a_TRY_LOCK_FAILED "com/example/signalbox/signalbox/runtime/Event" ∧ Fld Z h0 a_UNLOCK "java/lang/Enum" "ordinal" "I" (.int (3 : Int32)) ∧ Fld Z h0 a_P "java/lang/Enum" "ordinal" "I" (.int (0 : Int32)) ∧ Fld Z h0 a_V "java/lang/Enum" "ordinal" "I" (.int (1 : Int32)) ∧ Fld Z h0 a_UNLOCK "com/example/signalbox/signalbox/runtime/Event" "neverCompleted" "Z" (.int (0 : Int32)) ∧ Fld Z h0 a_LOCK "java/lang/Enum" "ordinal" "I" (.int (2 : Int32)) ∧ Fld Z h0 a_LOCK "com/example/signalbox/signalbox/runtime/Event" "neverCompleted" "Z" (.int (0 : Int32)) ∧ Fld Z h0 a_V_BLOCKED "java/lang/Enum" "ordinal" "I" (.int (7 : Int32)) ∧ Fld Z h0 a_V_BLOCKED "com/example/signalbox/signalbox/runtime/Event" "neverCompleted" "Z" (.int (1 : Int32)) ∧ Fld Z h0 a_V_BLOCKED "com/example/signalbox/signalbox/runtime/Event" "begunAs" "Lcom/example/signalbox/signalbox/runtime/Event;" (.ref a_V) ∧ Fld Z h0 a_TRY_P_FAILED "java/lang/Enum" "ordinal" "I" (.int (4 : Int32)) ∧ Fld Z h0 a_TRY_P_FAILED "com/example/signalbox/signalbox/runtime/Event" "neverCompleted" "Z" (.int (0 : Int32)) ∧ Fld Z h0 a_LOCK_BLOCKED "java/lang/Enum" "ordinal" "I" (.int (8 : Int32)) ∧ Fld Z h0 a_LOCK_BLOCKED "com/example/signalbox/signalbox/runtime/Event" "neverCompleted" "Z" (.int (1 : Int32)) ∧ Fld Z h0 a_LOCK_BLOCKED "com/example/signalbox/signalbox/runtime/Event" "begunAs" "Lcom/example/signalbox/signalbox/runtime/Event;" (.ref a_LOCK) ∧ Fld Z h0 a_P_BLOCKED "java/lang/Enum" "ordinal" "I" (.int (6 : Int32)) ∧ Fld Z h0 a_P_BLOCKED "com/example/signalbox/signalbox/runtime/Event" "neverCompleted" "Z" (.int (1 : Int32)) ∧ Fld Z h0 a_P_BLOCKED "com/example/signalbox/signalbox/runtime/Event" "begunAs" "Lcom/example/signalbox/signalbox/runtime/Event;" (.ref a_P) ∧ Fld Z h0 a_TRY_LOCK_FAILED "java/lang/Enum" "ordinal" "I" (.int (5 : Int32)) ∧ Fld Z h0 a_TRY_LOCK_FAILED "com/example/signalbox/signalbox/runtime/Event" "neverCompleted" "Z" (.int (0 : Int32)) ∧ Fld Z h0 a_P "com/example/signalbox/signalbox/runtime/Event" "neverCompleted" "Z" (.int (0 : Int32)) ∧ Fld Z h0 a_P "com/example/signalbox/signalbox/runtime/Event" "begunAs" "Lcom/example/signalbox/signalbox/runtime/Event;" .null ∧ Fld Z h0 a_UNLOCK "com/example/signalbox/signalbox/runtime/Event" "begunAs" "Lcom/example/signalbox/signalbox/runtime/Event;" .null ∧ Fld Z h0 a_V "com/example/signalbox/signalbox/runtime/Event" "neverCompleted" "Z" (.int (0 : Int32)) ∧ Fld Z h0 a_V "com/example/signalbox/signalbox/runtime/Event" "begunAs" "Lcom/example/signalbox/signalbox/runtime/Event;" .null ∧ Fld Z h0 a_LOCK "com/example/signalbox/signalbox/runtime/Event" "begunAs" "Lcom/example/signalbox/signalbox/runtime/Event;" .null ∧ Fld Z h0 a_TRY_P_FAILED "com/example/signalbox/signalbox/runtime/Event" "begunAs" "Lcom/example/signalbox/signalbox/runtime/Event;" (.ref a_P) ∧ Fld Z h0 a_TRY_LOCK_FAILED "com/example/signalbox/signalbox/runtime/Event" "begunAs" "Lcom/example/signalbox/signalbox/runtime/Event;" (.ref a_LOCK)
theorem d_method_3_0 : decode method_3_code 0 = .ok (.iload_n 0, 1) := by decide +kernel
theorem d_method_3_1 : decode method_3_code 1 = .ok (.ifCond .ne 7, 3) := by decide +kernel
theorem d_method_3_4 : decode method_3_code 4 = .ok (.getstatic 20, 3) := by decide +kernel
theorem d_method_3_7 : decode method_3_code 7 = .ok (.areturn, 1) := by decide +kernel
theorem pn_1 : plainName "com/example/signalbox/signalbox/runtime/EventTakesCountPinLaw" = true := by first | (simp [plainName, overriddenIn]; done) | decide +kernel
theorem ef_c_pick_0 (m : MethodId)  : entryFrame m #[(.int (0 : Int32))] 1 = mkF m 0 #[.val (.int (0 : Int32))] [] := by first | (simp [entryFrame, mkF, argsToLocals, Value.category]; done) | rfl
set_option maxRecDepth 65536 in
set_option maxHeartbeats 40000000 in
theorem c_pick_0 (l : Launch) (Z : State) (a0 : Array Value) (hw : ∀ d ∈ tables_1, d.before a0 Z = true) (a_P a_UNLOCK a_V a_LOCK a_V_BLOCKED a_TRY_P_FAILED a_LOCK_BLOCKED a_P_BLOCKED a_TRY_LOCK_FAILED : Addr) (h0 : Heap) (hK : Known Z h0 a_P a_UNLOCK a_V a_LOCK a_V_BLOCKED a_TRY_P_FAILED a_LOCK_BLOCKED a_P_BLOCKED a_TRY_LOCK_FAILED) :
    Ctr l Z (⟨"com/example/signalbox/signalbox/runtime/EventTakesCountPinLaw", "pick", "(I)Lcom/example/signalbox/signalbox/runtime/Event;"⟩ : MethodName) method_3_code 1 (some (.object "com/example/signalbox/signalbox/runtime/Event")) [] ({ frames := 0, cells := 0, slots := 0, locals := 0 } : Room) #[(.int (0 : Int32))] h0 (Just h0 (.ref a_P)) := by
  refine Ctr.of (plainFor_of_name pn_1) ?_
  intro p e s m below meth c s₁ hx hby hml hret hown hnm hZ hlk X0 e0
  refine Goes.cast (ef_c_pick_0 m ) ?_
  obtain ⟨S_P, S_UNLOCK, S_V, S_LOCK, S_V_BLOCKED, S_TRY_P_FAILED, S_LOCK_BLOCKED, S_P_BLOCKED, S_TRY_LOCK_FAILED, E_P, E_UNLOCK, E_V, E_LOCK, E_V_BLOCKED, E_TRY_P_FAILED, E_LOCK_BLOCKED, E_P_BLOCKED, E_TRY_LOCK_FAILED, F_UNLOCK_ordinal, F_P_ordinal, F_V_ordinal, F_UNLOCK_neverCompleted, F_LOCK_ordinal, F_LOCK_neverCompleted, F_V_BLOCKED_ordinal, F_V_BLOCKED_neverCompleted, F_V_BLOCKED_begunAs, F_TRY_P_FAILED_ordinal, F_TRY_P_FAILED_neverCompleted, F_LOCK_BLOCKED_ordinal, F_LOCK_BLOCKED_neverCompleted, F_LOCK_BLOCKED_begunAs, F_P_BLOCKED_ordinal, F_P_BLOCKED_neverCompleted, F_P_BLOCKED_begunAs, F_TRY_LOCK_FAILED_ordinal, F_TRY_LOCK_FAILED_neverCompleted, F_P_neverCompleted, F_P_begunAs, F_UNLOCK_begunAs, F_V_neverCompleted, F_V_begunAs, F_LOCK_begunAs, F_TRY_P_FAILED_begunAs, F_TRY_LOCK_FAILED_begunAs⟩ := hK
  refine gLoadIN X0 hx (hb hby d_method_3_0) (pc' := 1) rfl rfl ?_
  refine gIfNeT X0 hx (hb hby d_method_3_1) (pc' := 8) (by decide) (by decide) (pn := 4) rfl (fun (c1 : ¬ (0 : Int) = (0 : Int)) => ?_) (fun (c1 : (0 : Int) = (0 : Int)) => ?_)
  · exact absurd c1 (by decide)
  · refine gGetS X0 hx hZ hown (hw _ (List.mem_of_getElem? (i := 5) rfl)) Via.refl e0 S_P (hb hby d_method_3_4) (pc' := 7) rfl (fun T1 X1 e1 => ?_)
    exact gRetA X1 hx hlk hret rfl rfl (hb hby d_method_3_7) (by decide) (by decide) (⟨rfl, e1, rfl⟩)
theorem d_method_3_8 : decode method_3_code 8 = .ok (.iload_n 0, 1) := by decide +kernel
theorem d_method_3_9 : decode method_3_code 9 = .ok (.iconst 1, 1) := by decide +kernel
theorem d_method_3_10 : decode method_3_code 10 = .ok (.if_icmp .ne 7, 3) := by decide +kernel
theorem d_method_3_13 : decode method_3_code 13 = .ok (.getstatic 24, 3) := by decide +kernel
theorem d_method_3_16 : decode method_3_code 16 = .ok (.areturn, 1) := by decide +kernel
theorem ef_c_pick_1 (m : MethodId)  : entryFrame m #[(.int (1 : Int32))] 1 = mkF m 0 #[.val (.int (1 : Int32))] [] := by first | (simp [entryFrame, mkF, argsToLocals, Value.category]; done) | rfl
set_option maxRecDepth 65536 in
set_option maxHeartbeats 40000000 in
theorem c_pick_1 (l : Launch) (Z : State) (a0 : Array Value) (hw : ∀ d ∈ tables_1, d.before a0 Z = true) (a_P a_UNLOCK a_V a_LOCK a_V_BLOCKED a_TRY_P_FAILED a_LOCK_BLOCKED a_P_BLOCKED a_TRY_LOCK_FAILED : Addr) (h0 : Heap) (hK : Known Z h0 a_P a_UNLOCK a_V a_LOCK a_V_BLOCKED a_TRY_P_FAILED a_LOCK_BLOCKED a_P_BLOCKED a_TRY_LOCK_FAILED) :
    Ctr l Z (⟨"com/example/signalbox/signalbox/runtime/EventTakesCountPinLaw", "pick", "(I)Lcom/example/signalbox/signalbox/runtime/Event;"⟩ : MethodName) method_3_code 1 (some (.object "com/example/signalbox/signalbox/runtime/Event")) [] ({ frames := 0, cells := 0, slots := 0, locals := 0 } : Room) #[(.int (1 : Int32))] h0 (Just h0 (.ref a_V)) := by
  refine Ctr.of (plainFor_of_name pn_1) ?_
  intro p e s m below meth c s₁ hx hby hml hret hown hnm hZ hlk X0 e0
  refine Goes.cast (ef_c_pick_1 m ) ?_
  obtain ⟨S_P, S_UNLOCK, S_V, S_LOCK, S_V_BLOCKED, S_TRY_P_FAILED, S_LOCK_BLOCKED, S_P_BLOCKED, S_TRY_LOCK_FAILED, E_P, E_UNLOCK, E_V, E_LOCK, E_V_BLOCKED, E_TRY_P_FAILED, E_LOCK_BLOCKED, E_P_BLOCKED, E_TRY_LOCK_FAILED, F_UNLOCK_ordinal, F_P_ordinal, F_V_ordinal, F_UNLOCK_neverCompleted, F_LOCK_ordinal, F_LOCK_neverCompleted, F_V_BLOCKED_ordinal, F_V_BLOCKED_neverCompleted, F_V_BLOCKED_begunAs, F_TRY_P_FAILED_ordinal, F_TRY_P_FAILED_neverCompleted, F_LOCK_BLOCKED_ordinal, F_LOCK_BLOCKED_neverCompleted, F_LOCK_BLOCKED_begunAs, F_P_BLOCKED_ordinal, F_P_BLOCKED_neverCompleted, F_P_BLOCKED_begunAs, F_TRY_LOCK_FAILED_ordinal, F_TRY_LOCK_FAILED_neverCompleted, F_P_neverCompleted, F_P_begunAs, F_UNLOCK_begunAs, F_V_neverCompleted, F_V_begunAs, F_LOCK_begunAs, F_TRY_P_FAILED_begunAs, F_TRY_LOCK_FAILED_begunAs⟩ := hK
  refine gLoadIN X0 hx (hb hby d_method_3_0) (pc' := 1) rfl rfl ?_
  refine gIfNeT X0 hx (hb hby d_method_3_1) (pc' := 8) (by decide) (by decide) (pn := 4) rfl (fun (c1 : ¬ (1 : Int) = (0 : Int)) => ?_) (fun (c1 : (1 : Int) = (0 : Int)) => ?_)
  · refine gLoadIN X0 hx (hb hby d_method_3_8) (pc' := 9) rfl rfl ?_
    refine gIconst X0 hx (v := (1 : Int32)) (hb hby d_method_3_9) (pc' := 10) rfl rfl ?_
    refine gIcmpNeT X0 hx (hb hby d_method_3_10) (pc' := 17) (by decide) (by decide) (pn := 13) rfl (fun (c10 : ¬ (1 : Int) = (1 : Int)) => ?_) (fun (c10 : (1 : Int) = (1 : Int)) => ?_)
    · exact absurd c10 (by decide)
    · refine gGetS X0 hx hZ hown (hw _ (List.mem_of_getElem? (i := 22) rfl)) Via.refl e0 S_V (hb hby d_method_3_13) (pc' := 16) rfl (fun T1 X1 e1 => ?_)
      exact gRetA X1 hx hlk hret rfl rfl (hb hby d_method_3_16) (by decide) (by decide) (⟨rfl, e1, rfl⟩)
  · exact absurd c1 (by decide)
theorem d_method_3_17 : decode method_3_code 17 = .ok (.iload_n 0, 1) := by decide +kernel
theorem d_method_3_18 : decode method_3_code 18 = .ok (.iconst 2, 1) := by decide +kernel
theorem d_method_3_19 : decode method_3_code 19 = .ok (.if_icmp .ne 7, 3) := by decide +kernel
theorem d_method_3_22 : decode method_3_code 22 = .ok (.getstatic 27, 3) := by decide +kernel
theorem d_method_3_25 : decode method_3_code 25 = .ok (.areturn, 1) := by decide +kernel
theorem ef_c_pick_2 (m : MethodId)  : entryFrame m #[(.int (2 : Int32))] 1 = mkF m 0 #[.val (.int (2 : Int32))] [] := by first | (simp [entryFrame, mkF, argsToLocals, Value.category]; done) | rfl
set_option maxRecDepth 65536 in
set_option maxHeartbeats 40000000 in
theorem c_pick_2 (l : Launch) (Z : State) (a0 : Array Value) (hw : ∀ d ∈ tables_1, d.before a0 Z = true) (a_P a_UNLOCK a_V a_LOCK a_V_BLOCKED a_TRY_P_FAILED a_LOCK_BLOCKED a_P_BLOCKED a_TRY_LOCK_FAILED : Addr) (h0 : Heap) (hK : Known Z h0 a_P a_UNLOCK a_V a_LOCK a_V_BLOCKED a_TRY_P_FAILED a_LOCK_BLOCKED a_P_BLOCKED a_TRY_LOCK_FAILED) :
    Ctr l Z (⟨"com/example/signalbox/signalbox/runtime/EventTakesCountPinLaw", "pick", "(I)Lcom/example/signalbox/signalbox/runtime/Event;"⟩ : MethodName) method_3_code 1 (some (.object "com/example/signalbox/signalbox/runtime/Event")) [] ({ frames := 0, cells := 0, slots := 0, locals := 0 } : Room) #[(.int (2 : Int32))] h0 (Just h0 (.ref a_LOCK)) := by
  refine Ctr.of (plainFor_of_name pn_1) ?_
  intro p e s m below meth c s₁ hx hby hml hret hown hnm hZ hlk X0 e0
  refine Goes.cast (ef_c_pick_2 m ) ?_
  obtain ⟨S_P, S_UNLOCK, S_V, S_LOCK, S_V_BLOCKED, S_TRY_P_FAILED, S_LOCK_BLOCKED, S_P_BLOCKED, S_TRY_LOCK_FAILED, E_P, E_UNLOCK, E_V, E_LOCK, E_V_BLOCKED, E_TRY_P_FAILED, E_LOCK_BLOCKED, E_P_BLOCKED, E_TRY_LOCK_FAILED, F_UNLOCK_ordinal, F_P_ordinal, F_V_ordinal, F_UNLOCK_neverCompleted, F_LOCK_ordinal, F_LOCK_neverCompleted, F_V_BLOCKED_ordinal, F_V_BLOCKED_neverCompleted, F_V_BLOCKED_begunAs, F_TRY_P_FAILED_ordinal, F_TRY_P_FAILED_neverCompleted, F_LOCK_BLOCKED_ordinal, F_LOCK_BLOCKED_neverCompleted, F_LOCK_BLOCKED_begunAs, F_P_BLOCKED_ordinal, F_P_BLOCKED_neverCompleted, F_P_BLOCKED_begunAs, F_TRY_LOCK_FAILED_ordinal, F_TRY_LOCK_FAILED_neverCompleted, F_P_neverCompleted, F_P_begunAs, F_UNLOCK_begunAs, F_V_neverCompleted, F_V_begunAs, F_LOCK_begunAs, F_TRY_P_FAILED_begunAs, F_TRY_LOCK_FAILED_begunAs⟩ := hK
  refine gLoadIN X0 hx (hb hby d_method_3_0) (pc' := 1) rfl rfl ?_
  refine gIfNeT X0 hx (hb hby d_method_3_1) (pc' := 8) (by decide) (by decide) (pn := 4) rfl (fun (c1 : ¬ (2 : Int) = (0 : Int)) => ?_) (fun (c1 : (2 : Int) = (0 : Int)) => ?_)
  · refine gLoadIN X0 hx (hb hby d_method_3_8) (pc' := 9) rfl rfl ?_
    refine gIconst X0 hx (v := (1 : Int32)) (hb hby d_method_3_9) (pc' := 10) rfl rfl ?_
    refine gIcmpNeT X0 hx (hb hby d_method_3_10) (pc' := 17) (by decide) (by decide) (pn := 13) rfl (fun (c10 : ¬ (2 : Int) = (1 : Int)) => ?_) (fun (c10 : (2 : Int) = (1 : Int)) => ?_)
    · refine gLoadIN X0 hx (hb hby d_method_3_17) (pc' := 18) rfl rfl ?_
      refine gIconst X0 hx (v := (2 : Int32)) (hb hby d_method_3_18) (pc' := 19) rfl rfl ?_
      refine gIcmpNeT X0 hx (hb hby d_method_3_19) (pc' := 26) (by decide) (by decide) (pn := 22) rfl (fun (c19 : ¬ (2 : Int) = (2 : Int)) => ?_) (fun (c19 : (2 : Int) = (2 : Int)) => ?_)
      · exact absurd c19 (by decide)
      · refine gGetS X0 hx hZ hown (hw _ (List.mem_of_getElem? (i := 20) rfl)) Via.refl e0 S_LOCK (hb hby d_method_3_22) (pc' := 25) rfl (fun T1 X1 e1 => ?_)
        exact gRetA X1 hx hlk hret rfl rfl (hb hby d_method_3_25) (by decide) (by decide) (⟨rfl, e1, rfl⟩)
    · exact absurd c10 (by decide)
  · exact absurd c1 (by decide)
theorem d_method_3_26 : decode method_3_code 26 = .ok (.iload_n 0, 1) := by decide +kernel
theorem d_method_3_27 : decode method_3_code 27 = .ok (.iconst 3, 1) := by decide +kernel
theorem d_method_3_28 : decode method_3_code 28 = .ok (.if_icmp .ne 7, 3) := by decide +kernel
theorem d_method_3_31 : decode method_3_code 31 = .ok (.getstatic 30, 3) := by decide +kernel
theorem d_method_3_34 : decode method_3_code 34 = .ok (.areturn, 1) := by decide +kernel
theorem ef_c_pick_3 (m : MethodId)  : entryFrame m #[(.int (3 : Int32))] 1 = mkF m 0 #[.val (.int (3 : Int32))] [] := by first | (simp [entryFrame, mkF, argsToLocals, Value.category]; done) | rfl
set_option maxRecDepth 65536 in
set_option maxHeartbeats 40000000 in
theorem c_pick_3 (l : Launch) (Z : State) (a0 : Array Value) (hw : ∀ d ∈ tables_1, d.before a0 Z = true) (a_P a_UNLOCK a_V a_LOCK a_V_BLOCKED a_TRY_P_FAILED a_LOCK_BLOCKED a_P_BLOCKED a_TRY_LOCK_FAILED : Addr) (h0 : Heap) (hK : Known Z h0 a_P a_UNLOCK a_V a_LOCK a_V_BLOCKED a_TRY_P_FAILED a_LOCK_BLOCKED a_P_BLOCKED a_TRY_LOCK_FAILED) :
    Ctr l Z (⟨"com/example/signalbox/signalbox/runtime/EventTakesCountPinLaw", "pick", "(I)Lcom/example/signalbox/signalbox/runtime/Event;"⟩ : MethodName) method_3_code 1 (some (.object "com/example/signalbox/signalbox/runtime/Event")) [] ({ frames := 0, cells := 0, slots := 0, locals := 0 } : Room) #[(.int (3 : Int32))] h0 (Just h0 (.ref a_UNLOCK)) := by
  refine Ctr.of (plainFor_of_name pn_1) ?_
  intro p e s m below meth c s₁ hx hby hml hret hown hnm hZ hlk X0 e0
  refine Goes.cast (ef_c_pick_3 m ) ?_
  obtain ⟨S_P, S_UNLOCK, S_V, S_LOCK, S_V_BLOCKED, S_TRY_P_FAILED, S_LOCK_BLOCKED, S_P_BLOCKED, S_TRY_LOCK_FAILED, E_P, E_UNLOCK, E_V, E_LOCK, E_V_BLOCKED, E_TRY_P_FAILED, E_LOCK_BLOCKED, E_P_BLOCKED, E_TRY_LOCK_FAILED, F_UNLOCK_ordinal, F_P_ordinal, F_V_ordinal, F_UNLOCK_neverCompleted, F_LOCK_ordinal, F_LOCK_neverCompleted, F_V_BLOCKED_ordinal, F_V_BLOCKED_neverCompleted, F_V_BLOCKED_begunAs, F_TRY_P_FAILED_ordinal, F_TRY_P_FAILED_neverCompleted, F_LOCK_BLOCKED_ordinal, F_LOCK_BLOCKED_neverCompleted, F_LOCK_BLOCKED_begunAs, F_P_BLOCKED_ordinal, F_P_BLOCKED_neverCompleted, F_P_BLOCKED_begunAs, F_TRY_LOCK_FAILED_ordinal, F_TRY_LOCK_FAILED_neverCompleted, F_P_neverCompleted, F_P_begunAs, F_UNLOCK_begunAs, F_V_neverCompleted, F_V_begunAs, F_LOCK_begunAs, F_TRY_P_FAILED_begunAs, F_TRY_LOCK_FAILED_begunAs⟩ := hK
  refine gLoadIN X0 hx (hb hby d_method_3_0) (pc' := 1) rfl rfl ?_
  refine gIfNeT X0 hx (hb hby d_method_3_1) (pc' := 8) (by decide) (by decide) (pn := 4) rfl (fun (c1 : ¬ (3 : Int) = (0 : Int)) => ?_) (fun (c1 : (3 : Int) = (0 : Int)) => ?_)
  · refine gLoadIN X0 hx (hb hby d_method_3_8) (pc' := 9) rfl rfl ?_
    refine gIconst X0 hx (v := (1 : Int32)) (hb hby d_method_3_9) (pc' := 10) rfl rfl ?_
    refine gIcmpNeT X0 hx (hb hby d_method_3_10) (pc' := 17) (by decide) (by decide) (pn := 13) rfl (fun (c10 : ¬ (3 : Int) = (1 : Int)) => ?_) (fun (c10 : (3 : Int) = (1 : Int)) => ?_)
    · refine gLoadIN X0 hx (hb hby d_method_3_17) (pc' := 18) rfl rfl ?_
      refine gIconst X0 hx (v := (2 : Int32)) (hb hby d_method_3_18) (pc' := 19) rfl rfl ?_
      refine gIcmpNeT X0 hx (hb hby d_method_3_19) (pc' := 26) (by decide) (by decide) (pn := 22) rfl (fun (c19 : ¬ (3 : Int) = (2 : Int)) => ?_) (fun (c19 : (3 : Int) = (2 : Int)) => ?_)
      · refine gLoadIN X0 hx (hb hby d_method_3_26) (pc' := 27) rfl rfl ?_
        refine gIconst X0 hx (v := (3 : Int32)) (hb hby d_method_3_27) (pc' := 28) rfl rfl ?_
        refine gIcmpNeT X0 hx (hb hby d_method_3_28) (pc' := 35) (by decide) (by decide) (pn := 31) rfl (fun (c28 : ¬ (3 : Int) = (3 : Int)) => ?_) (fun (c28 : (3 : Int) = (3 : Int)) => ?_)
        · exact absurd c28 (by decide)
        · refine gGetS X0 hx hZ hown (hw _ (List.mem_of_getElem? (i := 14) rfl)) Via.refl e0 S_UNLOCK (hb hby d_method_3_31) (pc' := 34) rfl (fun T1 X1 e1 => ?_)
          exact gRetA X1 hx hlk hret rfl rfl (hb hby d_method_3_34) (by decide) (by decide) (⟨rfl, e1, rfl⟩)
      · exact absurd c19 (by decide)
    · exact absurd c10 (by decide)
  · exact absurd c1 (by decide)
theorem d_method_3_35 : decode method_3_code 35 = .ok (.iload_n 0, 1) := by decide +kernel
theorem d_method_3_36 : decode method_3_code 36 = .ok (.iconst 4, 1) := by decide +kernel
theorem d_method_3_37 : decode method_3_code 37 = .ok (.if_icmp .ne 7, 3) := by decide +kernel
theorem d_method_3_40 : decode method_3_code 40 = .ok (.getstatic 33, 3) := by decide +kernel
theorem d_method_3_43 : decode method_3_code 43 = .ok (.areturn, 1) := by decide +kernel
theorem ef_c_pick_4 (m : MethodId)  : entryFrame m #[(.int (4 : Int32))] 1 = mkF m 0 #[.val (.int (4 : Int32))] [] := by first | (simp [entryFrame, mkF, argsToLocals, Value.category]; done) | rfl
set_option maxRecDepth 65536 in
set_option maxHeartbeats 40000000 in
theorem c_pick_4 (l : Launch) (Z : State) (a0 : Array Value) (hw : ∀ d ∈ tables_1, d.before a0 Z = true) (a_P a_UNLOCK a_V a_LOCK a_V_BLOCKED a_TRY_P_FAILED a_LOCK_BLOCKED a_P_BLOCKED a_TRY_LOCK_FAILED : Addr) (h0 : Heap) (hK : Known Z h0 a_P a_UNLOCK a_V a_LOCK a_V_BLOCKED a_TRY_P_FAILED a_LOCK_BLOCKED a_P_BLOCKED a_TRY_LOCK_FAILED) :
    Ctr l Z (⟨"com/example/signalbox/signalbox/runtime/EventTakesCountPinLaw", "pick", "(I)Lcom/example/signalbox/signalbox/runtime/Event;"⟩ : MethodName) method_3_code 1 (some (.object "com/example/signalbox/signalbox/runtime/Event")) [] ({ frames := 0, cells := 0, slots := 0, locals := 0 } : Room) #[(.int (4 : Int32))] h0 (Just h0 (.ref a_TRY_P_FAILED)) := by
  refine Ctr.of (plainFor_of_name pn_1) ?_
  intro p e s m below meth c s₁ hx hby hml hret hown hnm hZ hlk X0 e0
  refine Goes.cast (ef_c_pick_4 m ) ?_
  obtain ⟨S_P, S_UNLOCK, S_V, S_LOCK, S_V_BLOCKED, S_TRY_P_FAILED, S_LOCK_BLOCKED, S_P_BLOCKED, S_TRY_LOCK_FAILED, E_P, E_UNLOCK, E_V, E_LOCK, E_V_BLOCKED, E_TRY_P_FAILED, E_LOCK_BLOCKED, E_P_BLOCKED, E_TRY_LOCK_FAILED, F_UNLOCK_ordinal, F_P_ordinal, F_V_ordinal, F_UNLOCK_neverCompleted, F_LOCK_ordinal, F_LOCK_neverCompleted, F_V_BLOCKED_ordinal, F_V_BLOCKED_neverCompleted, F_V_BLOCKED_begunAs, F_TRY_P_FAILED_ordinal, F_TRY_P_FAILED_neverCompleted, F_LOCK_BLOCKED_ordinal, F_LOCK_BLOCKED_neverCompleted, F_LOCK_BLOCKED_begunAs, F_P_BLOCKED_ordinal, F_P_BLOCKED_neverCompleted, F_P_BLOCKED_begunAs, F_TRY_LOCK_FAILED_ordinal, F_TRY_LOCK_FAILED_neverCompleted, F_P_neverCompleted, F_P_begunAs, F_UNLOCK_begunAs, F_V_neverCompleted, F_V_begunAs, F_LOCK_begunAs, F_TRY_P_FAILED_begunAs, F_TRY_LOCK_FAILED_begunAs⟩ := hK
  refine gLoadIN X0 hx (hb hby d_method_3_0) (pc' := 1) rfl rfl ?_
  refine gIfNeT X0 hx (hb hby d_method_3_1) (pc' := 8) (by decide) (by decide) (pn := 4) rfl (fun (c1 : ¬ (4 : Int) = (0 : Int)) => ?_) (fun (c1 : (4 : Int) = (0 : Int)) => ?_)
  · refine gLoadIN X0 hx (hb hby d_method_3_8) (pc' := 9) rfl rfl ?_
    refine gIconst X0 hx (v := (1 : Int32)) (hb hby d_method_3_9) (pc' := 10) rfl rfl ?_
    refine gIcmpNeT X0 hx (hb hby d_method_3_10) (pc' := 17) (by decide) (by decide) (pn := 13) rfl (fun (c10 : ¬ (4 : Int) = (1 : Int)) => ?_) (fun (c10 : (4 : Int) = (1 : Int)) => ?_)
    · refine gLoadIN X0 hx (hb hby d_method_3_17) (pc' := 18) rfl rfl ?_
      refine gIconst X0 hx (v := (2 : Int32)) (hb hby d_method_3_18) (pc' := 19) rfl rfl ?_
      refine gIcmpNeT X0 hx (hb hby d_method_3_19) (pc' := 26) (by decide) (by decide) (pn := 22) rfl (fun (c19 : ¬ (4 : Int) = (2 : Int)) => ?_) (fun (c19 : (4 : Int) = (2 : Int)) => ?_)
      · refine gLoadIN X0 hx (hb hby d_method_3_26) (pc' := 27) rfl rfl ?_
        refine gIconst X0 hx (v := (3 : Int32)) (hb hby d_method_3_27) (pc' := 28) rfl rfl ?_
        refine gIcmpNeT X0 hx (hb hby d_method_3_28) (pc' := 35) (by decide) (by decide) (pn := 31) rfl (fun (c28 : ¬ (4 : Int) = (3 : Int)) => ?_) (fun (c28 : (4 : Int) = (3 : Int)) => ?_)
        · refine gLoadIN X0 hx (hb hby d_method_3_35) (pc' := 36) rfl rfl ?_
          refine gIconst X0 hx (v := (4 : Int32)) (hb hby d_method_3_36) (pc' := 37) rfl rfl ?_
          refine gIcmpNeT X0 hx (hb hby d_method_3_37) (pc' := 44) (by decide) (by decide) (pn := 40) rfl (fun (c37 : ¬ (4 : Int) = (4 : Int)) => ?_) (fun (c37 : (4 : Int) = (4 : Int)) => ?_)
          · exact absurd c37 (by decide)
          · refine gGetS X0 hx hZ hown (hw _ (List.mem_of_getElem? (i := 28) rfl)) Via.refl e0 S_TRY_P_FAILED (hb hby d_method_3_40) (pc' := 43) rfl (fun T1 X1 e1 => ?_)
            exact gRetA X1 hx hlk hret rfl rfl (hb hby d_method_3_43) (by decide) (by decide) (⟨rfl, e1, rfl⟩)
        · exact absurd c28 (by decide)
      · exact absurd c19 (by decide)
    · exact absurd c10 (by decide)
  · exact absurd c1 (by decide)
theorem d_method_3_44 : decode method_3_code 44 = .ok (.iload_n 0, 1) := by decide +kernel
theorem d_method_3_45 : decode method_3_code 45 = .ok (.iconst 5, 1) := by decide +kernel
theorem d_method_3_46 : decode method_3_code 46 = .ok (.if_icmp .ne 7, 3) := by decide +kernel
theorem d_method_3_49 : decode method_3_code 49 = .ok (.getstatic 36, 3) := by decide +kernel
theorem d_method_3_52 : decode method_3_code 52 = .ok (.areturn, 1) := by decide +kernel
theorem ef_c_pick_5 (m : MethodId)  : entryFrame m #[(.int (5 : Int32))] 1 = mkF m 0 #[.val (.int (5 : Int32))] [] := by first | (simp [entryFrame, mkF, argsToLocals, Value.category]; done) | rfl
set_option maxRecDepth 65536 in
set_option maxHeartbeats 40000000 in
theorem c_pick_5 (l : Launch) (Z : State) (a0 : Array Value) (hw : ∀ d ∈ tables_1, d.before a0 Z = true) (a_P a_UNLOCK a_V a_LOCK a_V_BLOCKED a_TRY_P_FAILED a_LOCK_BLOCKED a_P_BLOCKED a_TRY_LOCK_FAILED : Addr) (h0 : Heap) (hK : Known Z h0 a_P a_UNLOCK a_V a_LOCK a_V_BLOCKED a_TRY_P_FAILED a_LOCK_BLOCKED a_P_BLOCKED a_TRY_LOCK_FAILED) :
    Ctr l Z (⟨"com/example/signalbox/signalbox/runtime/EventTakesCountPinLaw", "pick", "(I)Lcom/example/signalbox/signalbox/runtime/Event;"⟩ : MethodName) method_3_code 1 (some (.object "com/example/signalbox/signalbox/runtime/Event")) [] ({ frames := 0, cells := 0, slots := 0, locals := 0 } : Room) #[(.int (5 : Int32))] h0 (Just h0 (.ref a_TRY_LOCK_FAILED)) := by
  refine Ctr.of (plainFor_of_name pn_1) ?_
  intro p e s m below meth c s₁ hx hby hml hret hown hnm hZ hlk X0 e0
  refine Goes.cast (ef_c_pick_5 m ) ?_
  obtain ⟨S_P, S_UNLOCK, S_V, S_LOCK, S_V_BLOCKED, S_TRY_P_FAILED, S_LOCK_BLOCKED, S_P_BLOCKED, S_TRY_LOCK_FAILED, E_P, E_UNLOCK, E_V, E_LOCK, E_V_BLOCKED, E_TRY_P_FAILED, E_LOCK_BLOCKED, E_P_BLOCKED, E_TRY_LOCK_FAILED, F_UNLOCK_ordinal, F_P_ordinal, F_V_ordinal, F_UNLOCK_neverCompleted, F_LOCK_ordinal, F_LOCK_neverCompleted, F_V_BLOCKED_ordinal, F_V_BLOCKED_neverCompleted, F_V_BLOCKED_begunAs, F_TRY_P_FAILED_ordinal, F_TRY_P_FAILED_neverCompleted, F_LOCK_BLOCKED_ordinal, F_LOCK_BLOCKED_neverCompleted, F_LOCK_BLOCKED_begunAs, F_P_BLOCKED_ordinal, F_P_BLOCKED_neverCompleted, F_P_BLOCKED_begunAs, F_TRY_LOCK_FAILED_ordinal, F_TRY_LOCK_FAILED_neverCompleted, F_P_neverCompleted, F_P_begunAs, F_UNLOCK_begunAs, F_V_neverCompleted, F_V_begunAs, F_LOCK_begunAs, F_TRY_P_FAILED_begunAs, F_TRY_LOCK_FAILED_begunAs⟩ := hK
  refine gLoadIN X0 hx (hb hby d_method_3_0) (pc' := 1) rfl rfl ?_
  refine gIfNeT X0 hx (hb hby d_method_3_1) (pc' := 8) (by decide) (by decide) (pn := 4) rfl (fun (c1 : ¬ (5 : Int) = (0 : Int)) => ?_) (fun (c1 : (5 : Int) = (0 : Int)) => ?_)
  · refine gLoadIN X0 hx (hb hby d_method_3_8) (pc' := 9) rfl rfl ?_
    refine gIconst X0 hx (v := (1 : Int32)) (hb hby d_method_3_9) (pc' := 10) rfl rfl ?_
    refine gIcmpNeT X0 hx (hb hby d_method_3_10) (pc' := 17) (by decide) (by decide) (pn := 13) rfl (fun (c10 : ¬ (5 : Int) = (1 : Int)) => ?_) (fun (c10 : (5 : Int) = (1 : Int)) => ?_)
    · refine gLoadIN X0 hx (hb hby d_method_3_17) (pc' := 18) rfl rfl ?_
      refine gIconst X0 hx (v := (2 : Int32)) (hb hby d_method_3_18) (pc' := 19) rfl rfl ?_
      refine gIcmpNeT X0 hx (hb hby d_method_3_19) (pc' := 26) (by decide) (by decide) (pn := 22) rfl (fun (c19 : ¬ (5 : Int) = (2 : Int)) => ?_) (fun (c19 : (5 : Int) = (2 : Int)) => ?_)
      · refine gLoadIN X0 hx (hb hby d_method_3_26) (pc' := 27) rfl rfl ?_
        refine gIconst X0 hx (v := (3 : Int32)) (hb hby d_method_3_27) (pc' := 28) rfl rfl ?_
        refine gIcmpNeT X0 hx (hb hby d_method_3_28) (pc' := 35) (by decide) (by decide) (pn := 31) rfl (fun (c28 : ¬ (5 : Int) = (3 : Int)) => ?_) (fun (c28 : (5 : Int) = (3 : Int)) => ?_)
        · refine gLoadIN X0 hx (hb hby d_method_3_35) (pc' := 36) rfl rfl ?_
          refine gIconst X0 hx (v := (4 : Int32)) (hb hby d_method_3_36) (pc' := 37) rfl rfl ?_
          refine gIcmpNeT X0 hx (hb hby d_method_3_37) (pc' := 44) (by decide) (by decide) (pn := 40) rfl (fun (c37 : ¬ (5 : Int) = (4 : Int)) => ?_) (fun (c37 : (5 : Int) = (4 : Int)) => ?_)
          · refine gLoadIN X0 hx (hb hby d_method_3_44) (pc' := 45) rfl rfl ?_
            refine gIconst X0 hx (v := (5 : Int32)) (hb hby d_method_3_45) (pc' := 46) rfl rfl ?_
            refine gIcmpNeT X0 hx (hb hby d_method_3_46) (pc' := 53) (by decide) (by decide) (pn := 49) rfl (fun (c46 : ¬ (5 : Int) = (5 : Int)) => ?_) (fun (c46 : (5 : Int) = (5 : Int)) => ?_)
            · exact absurd c46 (by decide)
            · refine gGetS X0 hx hZ hown (hw _ (List.mem_of_getElem? (i := 34) rfl)) Via.refl e0 S_TRY_LOCK_FAILED (hb hby d_method_3_49) (pc' := 52) rfl (fun T1 X1 e1 => ?_)
              exact gRetA X1 hx hlk hret rfl rfl (hb hby d_method_3_52) (by decide) (by decide) (⟨rfl, e1, rfl⟩)
          · exact absurd c37 (by decide)
        · exact absurd c28 (by decide)
      · exact absurd c19 (by decide)
    · exact absurd c10 (by decide)
  · exact absurd c1 (by decide)
theorem d_method_3_53 : decode method_3_code 53 = .ok (.iload_n 0, 1) := by decide +kernel
theorem d_method_3_54 : decode method_3_code 54 = .ok (.bipush 6, 2) := by decide +kernel
theorem d_method_3_56 : decode method_3_code 56 = .ok (.if_icmp .ne 7, 3) := by decide +kernel
theorem d_method_3_59 : decode method_3_code 59 = .ok (.getstatic 39, 3) := by decide +kernel
theorem d_method_3_62 : decode method_3_code 62 = .ok (.areturn, 1) := by decide +kernel
theorem ef_c_pick_6 (m : MethodId)  : entryFrame m #[(.int (6 : Int32))] 1 = mkF m 0 #[.val (.int (6 : Int32))] [] := by first | (simp [entryFrame, mkF, argsToLocals, Value.category]; done) | rfl
set_option maxRecDepth 65536 in
set_option maxHeartbeats 40000000 in
theorem c_pick_6 (l : Launch) (Z : State) (a0 : Array Value) (hw : ∀ d ∈ tables_1, d.before a0 Z = true) (a_P a_UNLOCK a_V a_LOCK a_V_BLOCKED a_TRY_P_FAILED a_LOCK_BLOCKED a_P_BLOCKED a_TRY_LOCK_FAILED : Addr) (h0 : Heap) (hK : Known Z h0 a_P a_UNLOCK a_V a_LOCK a_V_BLOCKED a_TRY_P_FAILED a_LOCK_BLOCKED a_P_BLOCKED a_TRY_LOCK_FAILED) :
    Ctr l Z (⟨"com/example/signalbox/signalbox/runtime/EventTakesCountPinLaw", "pick", "(I)Lcom/example/signalbox/signalbox/runtime/Event;"⟩ : MethodName) method_3_code 1 (some (.object "com/example/signalbox/signalbox/runtime/Event")) [] ({ frames := 0, cells := 0, slots := 0, locals := 0 } : Room) #[(.int (6 : Int32))] h0 (Just h0 (.ref a_P_BLOCKED)) := by
  refine Ctr.of (plainFor_of_name pn_1) ?_
  intro p e s m below meth c s₁ hx hby hml hret hown hnm hZ hlk X0 e0
  refine Goes.cast (ef_c_pick_6 m ) ?_
  obtain ⟨S_P, S_UNLOCK, S_V, S_LOCK, S_V_BLOCKED, S_TRY_P_FAILED, S_LOCK_BLOCKED, S_P_BLOCKED, S_TRY_LOCK_FAILED, E_P, E_UNLOCK, E_V, E_LOCK, E_V_BLOCKED, E_TRY_P_FAILED, E_LOCK_BLOCKED, E_P_BLOCKED, E_TRY_LOCK_FAILED, F_UNLOCK_ordinal, F_P_ordinal, F_V_ordinal, F_UNLOCK_neverCompleted, F_LOCK_ordinal, F_LOCK_neverCompleted, F_V_BLOCKED_ordinal, F_V_BLOCKED_neverCompleted, F_V_BLOCKED_begunAs, F_TRY_P_FAILED_ordinal, F_TRY_P_FAILED_neverCompleted, F_LOCK_BLOCKED_ordinal, F_LOCK_BLOCKED_neverCompleted, F_LOCK_BLOCKED_begunAs, F_P_BLOCKED_ordinal, F_P_BLOCKED_neverCompleted, F_P_BLOCKED_begunAs, F_TRY_LOCK_FAILED_ordinal, F_TRY_LOCK_FAILED_neverCompleted, F_P_neverCompleted, F_P_begunAs, F_UNLOCK_begunAs, F_V_neverCompleted, F_V_begunAs, F_LOCK_begunAs, F_TRY_P_FAILED_begunAs, F_TRY_LOCK_FAILED_begunAs⟩ := hK
  refine gLoadIN X0 hx (hb hby d_method_3_0) (pc' := 1) rfl rfl ?_
  refine gIfNeT X0 hx (hb hby d_method_3_1) (pc' := 8) (by decide) (by decide) (pn := 4) rfl (fun (c1 : ¬ (6 : Int) = (0 : Int)) => ?_) (fun (c1 : (6 : Int) = (0 : Int)) => ?_)
  · refine gLoadIN X0 hx (hb hby d_method_3_8) (pc' := 9) rfl rfl ?_
    refine gIconst X0 hx (v := (1 : Int32)) (hb hby d_method_3_9) (pc' := 10) rfl rfl ?_
    refine gIcmpNeT X0 hx (hb hby d_method_3_10) (pc' := 17) (by decide) (by decide) (pn := 13) rfl (fun (c10 : ¬ (6 : Int) = (1 : Int)) => ?_) (fun (c10 : (6 : Int) = (1 : Int)) => ?_)
    · refine gLoadIN X0 hx (hb hby d_method_3_17) (pc' := 18) rfl rfl ?_
      refine gIconst X0 hx (v := (2 : Int32)) (hb hby d_method_3_18) (pc' := 19) rfl rfl ?_
      refine gIcmpNeT X0 hx (hb hby d_method_3_19) (pc' := 26) (by decide) (by decide) (pn := 22) rfl (fun (c19 : ¬ (6 : Int) = (2 : Int)) => ?_) (fun (c19 : (6 : Int) = (2 : Int)) => ?_)
      · refine gLoadIN X0 hx (hb hby d_method_3_26) (pc' := 27) rfl rfl ?_
        refine gIconst X0 hx (v := (3 : Int32)) (hb hby d_method_3_27) (pc' := 28) rfl rfl ?_
        refine gIcmpNeT X0 hx (hb hby d_method_3_28) (pc' := 35) (by decide) (by decide) (pn := 31) rfl (fun (c28 : ¬ (6 : Int) = (3 : Int)) => ?_) (fun (c28 : (6 : Int) = (3 : Int)) => ?_)
        · refine gLoadIN X0 hx (hb hby d_method_3_35) (pc' := 36) rfl rfl ?_
          refine gIconst X0 hx (v := (4 : Int32)) (hb hby d_method_3_36) (pc' := 37) rfl rfl ?_
          refine gIcmpNeT X0 hx (hb hby d_method_3_37) (pc' := 44) (by decide) (by decide) (pn := 40) rfl (fun (c37 : ¬ (6 : Int) = (4 : Int)) => ?_) (fun (c37 : (6 : Int) = (4 : Int)) => ?_)
          · refine gLoadIN X0 hx (hb hby d_method_3_44) (pc' := 45) rfl rfl ?_
            refine gIconst X0 hx (v := (5 : Int32)) (hb hby d_method_3_45) (pc' := 46) rfl rfl ?_
            refine gIcmpNeT X0 hx (hb hby d_method_3_46) (pc' := 53) (by decide) (by decide) (pn := 49) rfl (fun (c46 : ¬ (6 : Int) = (5 : Int)) => ?_) (fun (c46 : (6 : Int) = (5 : Int)) => ?_)
            · refine gLoadIN X0 hx (hb hby d_method_3_53) (pc' := 54) rfl rfl ?_
              refine gBipush X0 hx (v := (6 : Int32)) (hb hby d_method_3_54) (pc' := 56) rfl rfl ?_
              refine gIcmpNeT X0 hx (hb hby d_method_3_56) (pc' := 63) (by decide) (by decide) (pn := 59) rfl (fun (c56 : ¬ (6 : Int) = (6 : Int)) => ?_) (fun (c56 : (6 : Int) = (6 : Int)) => ?_)
              · exact absurd c56 (by decide)
              · refine gGetS X0 hx hZ hown (hw _ (List.mem_of_getElem? (i := 32) rfl)) Via.refl e0 S_P_BLOCKED (hb hby d_method_3_59) (pc' := 62) rfl (fun T1 X1 e1 => ?_)
                exact gRetA X1 hx hlk hret rfl rfl (hb hby d_method_3_62) (by decide) (by decide) (⟨rfl, e1, rfl⟩)
            · exact absurd c46 (by decide)
          · exact absurd c37 (by decide)
        · exact absurd c28 (by decide)
      · exact absurd c19 (by decide)
    · exact absurd c10 (by decide)
  · exact absurd c1 (by decide)
theorem d_method_3_63 : decode method_3_code 63 = .ok (.iload_n 0, 1) := by decide +kernel
theorem d_method_3_64 : decode method_3_code 64 = .ok (.bipush 7, 2) := by decide +kernel
theorem d_method_3_66 : decode method_3_code 66 = .ok (.if_icmp .ne 7, 3) := by decide +kernel
theorem d_method_3_69 : decode method_3_code 69 = .ok (.getstatic 42, 3) := by decide +kernel
theorem d_method_3_72 : decode method_3_code 72 = .ok (.areturn, 1) := by decide +kernel
theorem ef_c_pick_7 (m : MethodId)  : entryFrame m #[(.int (7 : Int32))] 1 = mkF m 0 #[.val (.int (7 : Int32))] [] := by first | (simp [entryFrame, mkF, argsToLocals, Value.category]; done) | rfl
set_option maxRecDepth 65536 in
set_option maxHeartbeats 40000000 in
theorem c_pick_7 (l : Launch) (Z : State) (a0 : Array Value) (hw : ∀ d ∈ tables_1, d.before a0 Z = true) (a_P a_UNLOCK a_V a_LOCK a_V_BLOCKED a_TRY_P_FAILED a_LOCK_BLOCKED a_P_BLOCKED a_TRY_LOCK_FAILED : Addr) (h0 : Heap) (hK : Known Z h0 a_P a_UNLOCK a_V a_LOCK a_V_BLOCKED a_TRY_P_FAILED a_LOCK_BLOCKED a_P_BLOCKED a_TRY_LOCK_FAILED) :
    Ctr l Z (⟨"com/example/signalbox/signalbox/runtime/EventTakesCountPinLaw", "pick", "(I)Lcom/example/signalbox/signalbox/runtime/Event;"⟩ : MethodName) method_3_code 1 (some (.object "com/example/signalbox/signalbox/runtime/Event")) [] ({ frames := 0, cells := 0, slots := 0, locals := 0 } : Room) #[(.int (7 : Int32))] h0 (Just h0 (.ref a_V_BLOCKED)) := by
  refine Ctr.of (plainFor_of_name pn_1) ?_
  intro p e s m below meth c s₁ hx hby hml hret hown hnm hZ hlk X0 e0
  refine Goes.cast (ef_c_pick_7 m ) ?_
  obtain ⟨S_P, S_UNLOCK, S_V, S_LOCK, S_V_BLOCKED, S_TRY_P_FAILED, S_LOCK_BLOCKED, S_P_BLOCKED, S_TRY_LOCK_FAILED, E_P, E_UNLOCK, E_V, E_LOCK, E_V_BLOCKED, E_TRY_P_FAILED, E_LOCK_BLOCKED, E_P_BLOCKED, E_TRY_LOCK_FAILED, F_UNLOCK_ordinal, F_P_ordinal, F_V_ordinal, F_UNLOCK_neverCompleted, F_LOCK_ordinal, F_LOCK_neverCompleted, F_V_BLOCKED_ordinal, F_V_BLOCKED_neverCompleted, F_V_BLOCKED_begunAs, F_TRY_P_FAILED_ordinal, F_TRY_P_FAILED_neverCompleted, F_LOCK_BLOCKED_ordinal, F_LOCK_BLOCKED_neverCompleted, F_LOCK_BLOCKED_begunAs, F_P_BLOCKED_ordinal, F_P_BLOCKED_neverCompleted, F_P_BLOCKED_begunAs, F_TRY_LOCK_FAILED_ordinal, F_TRY_LOCK_FAILED_neverCompleted, F_P_neverCompleted, F_P_begunAs, F_UNLOCK_begunAs, F_V_neverCompleted, F_V_begunAs, F_LOCK_begunAs, F_TRY_P_FAILED_begunAs, F_TRY_LOCK_FAILED_begunAs⟩ := hK
  refine gLoadIN X0 hx (hb hby d_method_3_0) (pc' := 1) rfl rfl ?_
  refine gIfNeT X0 hx (hb hby d_method_3_1) (pc' := 8) (by decide) (by decide) (pn := 4) rfl (fun (c1 : ¬ (7 : Int) = (0 : Int)) => ?_) (fun (c1 : (7 : Int) = (0 : Int)) => ?_)
  · refine gLoadIN X0 hx (hb hby d_method_3_8) (pc' := 9) rfl rfl ?_
    refine gIconst X0 hx (v := (1 : Int32)) (hb hby d_method_3_9) (pc' := 10) rfl rfl ?_
    refine gIcmpNeT X0 hx (hb hby d_method_3_10) (pc' := 17) (by decide) (by decide) (pn := 13) rfl (fun (c10 : ¬ (7 : Int) = (1 : Int)) => ?_) (fun (c10 : (7 : Int) = (1 : Int)) => ?_)
    · refine gLoadIN X0 hx (hb hby d_method_3_17) (pc' := 18) rfl rfl ?_
      refine gIconst X0 hx (v := (2 : Int32)) (hb hby d_method_3_18) (pc' := 19) rfl rfl ?_
      refine gIcmpNeT X0 hx (hb hby d_method_3_19) (pc' := 26) (by decide) (by decide) (pn := 22) rfl (fun (c19 : ¬ (7 : Int) = (2 : Int)) => ?_) (fun (c19 : (7 : Int) = (2 : Int)) => ?_)
      · refine gLoadIN X0 hx (hb hby d_method_3_26) (pc' := 27) rfl rfl ?_
        refine gIconst X0 hx (v := (3 : Int32)) (hb hby d_method_3_27) (pc' := 28) rfl rfl ?_
        refine gIcmpNeT X0 hx (hb hby d_method_3_28) (pc' := 35) (by decide) (by decide) (pn := 31) rfl (fun (c28 : ¬ (7 : Int) = (3 : Int)) => ?_) (fun (c28 : (7 : Int) = (3 : Int)) => ?_)
        · refine gLoadIN X0 hx (hb hby d_method_3_35) (pc' := 36) rfl rfl ?_
          refine gIconst X0 hx (v := (4 : Int32)) (hb hby d_method_3_36) (pc' := 37) rfl rfl ?_
          refine gIcmpNeT X0 hx (hb hby d_method_3_37) (pc' := 44) (by decide) (by decide) (pn := 40) rfl (fun (c37 : ¬ (7 : Int) = (4 : Int)) => ?_) (fun (c37 : (7 : Int) = (4 : Int)) => ?_)
          · refine gLoadIN X0 hx (hb hby d_method_3_44) (pc' := 45) rfl rfl ?_
            refine gIconst X0 hx (v := (5 : Int32)) (hb hby d_method_3_45) (pc' := 46) rfl rfl ?_
            refine gIcmpNeT X0 hx (hb hby d_method_3_46) (pc' := 53) (by decide) (by decide) (pn := 49) rfl (fun (c46 : ¬ (7 : Int) = (5 : Int)) => ?_) (fun (c46 : (7 : Int) = (5 : Int)) => ?_)
            · refine gLoadIN X0 hx (hb hby d_method_3_53) (pc' := 54) rfl rfl ?_
              refine gBipush X0 hx (v := (6 : Int32)) (hb hby d_method_3_54) (pc' := 56) rfl rfl ?_
              refine gIcmpNeT X0 hx (hb hby d_method_3_56) (pc' := 63) (by decide) (by decide) (pn := 59) rfl (fun (c56 : ¬ (7 : Int) = (6 : Int)) => ?_) (fun (c56 : (7 : Int) = (6 : Int)) => ?_)
              · refine gLoadIN X0 hx (hb hby d_method_3_63) (pc' := 64) rfl rfl ?_
                refine gBipush X0 hx (v := (7 : Int32)) (hb hby d_method_3_64) (pc' := 66) rfl rfl ?_
                refine gIcmpNeT X0 hx (hb hby d_method_3_66) (pc' := 73) (by decide) (by decide) (pn := 69) rfl (fun (c66 : ¬ (7 : Int) = (7 : Int)) => ?_) (fun (c66 : (7 : Int) = (7 : Int)) => ?_)
                · exact absurd c66 (by decide)
                · refine gGetS X0 hx hZ hown (hw _ (List.mem_of_getElem? (i := 23) rfl)) Via.refl e0 S_V_BLOCKED (hb hby d_method_3_69) (pc' := 72) rfl (fun T1 X1 e1 => ?_)
                  exact gRetA X1 hx hlk hret rfl rfl (hb hby d_method_3_72) (by decide) (by decide) (⟨rfl, e1, rfl⟩)
              · exact absurd c56 (by decide)
            · exact absurd c46 (by decide)
          · exact absurd c37 (by decide)
        · exact absurd c28 (by decide)
      · exact absurd c19 (by decide)
    · exact absurd c10 (by decide)
  · exact absurd c1 (by decide)
theorem d_method_3_73 : decode method_3_code 73 = .ok (.getstatic 45, 3) := by decide +kernel
theorem d_method_3_76 : decode method_3_code 76 = .ok (.areturn, 1) := by decide +kernel
theorem ef_c_pick_8 (m : MethodId)  : entryFrame m #[(.int (8 : Int32))] 1 = mkF m 0 #[.val (.int (8 : Int32))] [] := by first | (simp [entryFrame, mkF, argsToLocals, Value.category]; done) | rfl
set_option maxRecDepth 65536 in
set_option maxHeartbeats 40000000 in
theorem c_pick_8 (l : Launch) (Z : State) (a0 : Array Value) (hw : ∀ d ∈ tables_1, d.before a0 Z = true) (a_P a_UNLOCK a_V a_LOCK a_V_BLOCKED a_TRY_P_FAILED a_LOCK_BLOCKED a_P_BLOCKED a_TRY_LOCK_FAILED : Addr) (h0 : Heap) (hK : Known Z h0 a_P a_UNLOCK a_V a_LOCK a_V_BLOCKED a_TRY_P_FAILED a_LOCK_BLOCKED a_P_BLOCKED a_TRY_LOCK_FAILED) :
    Ctr l Z (⟨"com/example/signalbox/signalbox/runtime/EventTakesCountPinLaw", "pick", "(I)Lcom/example/signalbox/signalbox/runtime/Event;"⟩ : MethodName) method_3_code 1 (some (.object "com/example/signalbox/signalbox/runtime/Event")) [] ({ frames := 0, cells := 0, slots := 0, locals := 0 } : Room) #[(.int (8 : Int32))] h0 (Just h0 (.ref a_LOCK_BLOCKED)) := by
  refine Ctr.of (plainFor_of_name pn_1) ?_
  intro p e s m below meth c s₁ hx hby hml hret hown hnm hZ hlk X0 e0
  refine Goes.cast (ef_c_pick_8 m ) ?_
  obtain ⟨S_P, S_UNLOCK, S_V, S_LOCK, S_V_BLOCKED, S_TRY_P_FAILED, S_LOCK_BLOCKED, S_P_BLOCKED, S_TRY_LOCK_FAILED, E_P, E_UNLOCK, E_V, E_LOCK, E_V_BLOCKED, E_TRY_P_FAILED, E_LOCK_BLOCKED, E_P_BLOCKED, E_TRY_LOCK_FAILED, F_UNLOCK_ordinal, F_P_ordinal, F_V_ordinal, F_UNLOCK_neverCompleted, F_LOCK_ordinal, F_LOCK_neverCompleted, F_V_BLOCKED_ordinal, F_V_BLOCKED_neverCompleted, F_V_BLOCKED_begunAs, F_TRY_P_FAILED_ordinal, F_TRY_P_FAILED_neverCompleted, F_LOCK_BLOCKED_ordinal, F_LOCK_BLOCKED_neverCompleted, F_LOCK_BLOCKED_begunAs, F_P_BLOCKED_ordinal, F_P_BLOCKED_neverCompleted, F_P_BLOCKED_begunAs, F_TRY_LOCK_FAILED_ordinal, F_TRY_LOCK_FAILED_neverCompleted, F_P_neverCompleted, F_P_begunAs, F_UNLOCK_begunAs, F_V_neverCompleted, F_V_begunAs, F_LOCK_begunAs, F_TRY_P_FAILED_begunAs, F_TRY_LOCK_FAILED_begunAs⟩ := hK
  refine gLoadIN X0 hx (hb hby d_method_3_0) (pc' := 1) rfl rfl ?_
  refine gIfNeT X0 hx (hb hby d_method_3_1) (pc' := 8) (by decide) (by decide) (pn := 4) rfl (fun (c1 : ¬ (8 : Int) = (0 : Int)) => ?_) (fun (c1 : (8 : Int) = (0 : Int)) => ?_)
  · refine gLoadIN X0 hx (hb hby d_method_3_8) (pc' := 9) rfl rfl ?_
    refine gIconst X0 hx (v := (1 : Int32)) (hb hby d_method_3_9) (pc' := 10) rfl rfl ?_
    refine gIcmpNeT X0 hx (hb hby d_method_3_10) (pc' := 17) (by decide) (by decide) (pn := 13) rfl (fun (c10 : ¬ (8 : Int) = (1 : Int)) => ?_) (fun (c10 : (8 : Int) = (1 : Int)) => ?_)
    · refine gLoadIN X0 hx (hb hby d_method_3_17) (pc' := 18) rfl rfl ?_
      refine gIconst X0 hx (v := (2 : Int32)) (hb hby d_method_3_18) (pc' := 19) rfl rfl ?_
      refine gIcmpNeT X0 hx (hb hby d_method_3_19) (pc' := 26) (by decide) (by decide) (pn := 22) rfl (fun (c19 : ¬ (8 : Int) = (2 : Int)) => ?_) (fun (c19 : (8 : Int) = (2 : Int)) => ?_)
      · refine gLoadIN X0 hx (hb hby d_method_3_26) (pc' := 27) rfl rfl ?_
        refine gIconst X0 hx (v := (3 : Int32)) (hb hby d_method_3_27) (pc' := 28) rfl rfl ?_
        refine gIcmpNeT X0 hx (hb hby d_method_3_28) (pc' := 35) (by decide) (by decide) (pn := 31) rfl (fun (c28 : ¬ (8 : Int) = (3 : Int)) => ?_) (fun (c28 : (8 : Int) = (3 : Int)) => ?_)
        · refine gLoadIN X0 hx (hb hby d_method_3_35) (pc' := 36) rfl rfl ?_
          refine gIconst X0 hx (v := (4 : Int32)) (hb hby d_method_3_36) (pc' := 37) rfl rfl ?_
          refine gIcmpNeT X0 hx (hb hby d_method_3_37) (pc' := 44) (by decide) (by decide) (pn := 40) rfl (fun (c37 : ¬ (8 : Int) = (4 : Int)) => ?_) (fun (c37 : (8 : Int) = (4 : Int)) => ?_)
          · refine gLoadIN X0 hx (hb hby d_method_3_44) (pc' := 45) rfl rfl ?_
            refine gIconst X0 hx (v := (5 : Int32)) (hb hby d_method_3_45) (pc' := 46) rfl rfl ?_
            refine gIcmpNeT X0 hx (hb hby d_method_3_46) (pc' := 53) (by decide) (by decide) (pn := 49) rfl (fun (c46 : ¬ (8 : Int) = (5 : Int)) => ?_) (fun (c46 : (8 : Int) = (5 : Int)) => ?_)
            · refine gLoadIN X0 hx (hb hby d_method_3_53) (pc' := 54) rfl rfl ?_
              refine gBipush X0 hx (v := (6 : Int32)) (hb hby d_method_3_54) (pc' := 56) rfl rfl ?_
              refine gIcmpNeT X0 hx (hb hby d_method_3_56) (pc' := 63) (by decide) (by decide) (pn := 59) rfl (fun (c56 : ¬ (8 : Int) = (6 : Int)) => ?_) (fun (c56 : (8 : Int) = (6 : Int)) => ?_)
              · refine gLoadIN X0 hx (hb hby d_method_3_63) (pc' := 64) rfl rfl ?_
                refine gBipush X0 hx (v := (7 : Int32)) (hb hby d_method_3_64) (pc' := 66) rfl rfl ?_
                refine gIcmpNeT X0 hx (hb hby d_method_3_66) (pc' := 73) (by decide) (by decide) (pn := 69) rfl (fun (c66 : ¬ (8 : Int) = (7 : Int)) => ?_) (fun (c66 : (8 : Int) = (7 : Int)) => ?_)
                · refine gGetS X0 hx hZ hown (hw _ (List.mem_of_getElem? (i := 30) rfl)) Via.refl e0 S_LOCK_BLOCKED (hb hby d_method_3_73) (pc' := 76) rfl (fun T1 X1 e1 => ?_)
                  exact gRetA X1 hx hlk hret rfl rfl (hb hby d_method_3_76) (by decide) (by decide) (⟨rfl, e1, rfl⟩)
                · exact absurd c66 (by decide)
              · exact absurd c56 (by decide)
            · exact absurd c46 (by decide)
          · exact absurd c37 (by decide)
        · exact absurd c28 (by decide)
      · exact absurd c19 (by decide)
    · exact absurd c10 (by decide)
  · exact absurd c1 (by decide)
theorem d_prog_23_method_6_0 : decode prog_23_method_6_code 0 = .ok (.aload_n 0, 1) := by decide +kernel
theorem d_prog_23_method_6_1 : decode prog_23_method_6_code 1 = .ok (.getstatic 3, 3) := by decide +kernel
theorem d_prog_23_method_6_4 : decode prog_23_method_6_code 4 = .ok (.if_acmp .eq 27, 3) := by decide +kernel
theorem d_prog_23_method_6_31 : decode prog_23_method_6_code 31 = .ok (.iconst 1, 1) := by decide +kernel
theorem d_prog_23_method_6_32 : decode prog_23_method_6_code 32 = .ok (.goto 4, 3) := by decide +kernel
theorem d_prog_23_method_6_36 : decode prog_23_method_6_code 36 = .ok (.ireturn, 1) := by decide +kernel
theorem pn_0 : plainName "com/example/signalbox/signalbox/runtime/Event" = true := by first | (simp [plainName, overriddenIn]; done) | decide +kernel
theorem ef_c_takes_0 (m : MethodId) (a_P : Addr) : entryFrame m #[(.ref a_P)] 1 = mkF m 0 #[.val (.ref a_P)] [] := by first | (simp [entryFrame, mkF, argsToLocals, Value.category]; done) | rfl
set_option maxRecDepth 65536 in
set_option maxHeartbeats 40000000 in
theorem c_takes_0 (l : Launch) (Z : State) (a0 : Array Value) (hw : ∀ d ∈ tables_1, d.before a0 Z = true) (a_P a_UNLOCK a_V a_LOCK a_V_BLOCKED a_TRY_P_FAILED a_LOCK_BLOCKED a_P_BLOCKED a_TRY_LOCK_FAILED : Addr) (h0 : Heap) (hK : Known Z h0 a_P a_UNLOCK a_V a_LOCK a_V_BLOCKED a_TRY_P_FAILED a_LOCK_BLOCKED a_P_BLOCKED a_TRY_LOCK_FAILED) :
    Ctr l Z (⟨"com/example/signalbox/signalbox/runtime/Event", "takesCount", "()Z"⟩ : MethodName) prog_23_method_6_code 1 (some .boolean) [] ({ frames := 0, cells := 0, slots := 0, locals := 0 } : Room) #[(.ref a_P)] h0 (Just h0 (.int 1)) := by
  refine Ctr.of (plainFor_of_name pn_0) ?_
  intro p e s m below meth c s₁ hx hby hml hret hown hnm hZ hlk X0 e0
  refine Goes.cast (ef_c_takes_0 m a_P) ?_
  have hK' := hK
  obtain ⟨S_P, S_UNLOCK, S_V, S_LOCK, S_V_BLOCKED, S_TRY_P_FAILED, S_LOCK_BLOCKED, S_P_BLOCKED, S_TRY_LOCK_FAILED, E_P, E_UNLOCK, E_V, E_LOCK, E_V_BLOCKED, E_TRY_P_FAILED, E_LOCK_BLOCKED, E_P_BLOCKED, E_TRY_LOCK_FAILED, F_UNLOCK_ordinal, F_P_ordinal, F_V_ordinal, F_UNLOCK_neverCompleted, F_LOCK_ordinal, F_LOCK_neverCompleted, F_V_BLOCKED_ordinal, F_V_BLOCKED_neverCompleted, F_V_BLOCKED_begunAs, F_TRY_P_FAILED_ordinal, F_TRY_P_FAILED_neverCompleted, F_LOCK_BLOCKED_ordinal, F_LOCK_BLOCKED_neverCompleted, F_LOCK_BLOCKED_begunAs, F_P_BLOCKED_ordinal, F_P_BLOCKED_neverCompleted, F_P_BLOCKED_begunAs, F_TRY_LOCK_FAILED_ordinal, F_TRY_LOCK_FAILED_neverCompleted, F_P_neverCompleted, F_P_begunAs, F_UNLOCK_begunAs, F_V_neverCompleted, F_V_begunAs, F_LOCK_begunAs, F_TRY_P_FAILED_begunAs, F_TRY_LOCK_FAILED_begunAs⟩ := hK'
  refine gLoadAN X0 hx (hb hby d_prog_23_method_6_0) (pc' := 1) rfl rfl rfl ?_
  refine gGetS X0 hx hZ hown (hw _ (List.mem_of_getElem? (i := 13) rfl)) Via.refl e0 S_P (hb hby d_prog_23_method_6_1) (pc' := 4) rfl (fun T1 X1 e1 => ?_)
  refine gAcmpEq X1 hx (hb hby d_prog_23_method_6_4) rfl rfl (pc' := 31) (by decide) (by decide) (pn := 7) rfl (fun (c4 : (Value.ref a_P) = (.ref a_P)) => ?_) (fun (c4 : ¬ (Value.ref a_P) = (.ref a_P)) => ?_)
  · refine gIconst X1 hx (v := (1 : Int32)) (hb hby d_prog_23_method_6_31) (pc' := 32) rfl rfl ?_
    refine gGoto X1 hx (hb hby d_prog_23_method_6_32) (pc' := 36) (by decide) (by decide) ?_
    exact gRetN X1 hx hlk hret (by simp) (hb hby d_prog_23_method_6_36) (w := (1 : Int32)) rfl (by decide) (by decide) (⟨rfl, e1, rfl⟩)
  · exact absurd rfl c4
theorem d_prog_23_method_6_7 : decode prog_23_method_6_code 7 = .ok (.aload_n 0, 1) := by decide +kernel
theorem d_prog_23_method_6_8 : decode prog_23_method_6_code 8 = .ok (.getstatic 7, 3) := by decide +kernel
theorem d_prog_23_method_6_11 : decode prog_23_method_6_code 11 = .ok (.if_acmp .eq 20, 3) := by decide +kernel
theorem ef_c_takes_1 (m : MethodId) (a_V : Addr) : entryFrame m #[(.ref a_V)] 1 = mkF m 0 #[.val (.ref a_V)] [] := by first | (simp [entryFrame, mkF, argsToLocals, Value.category]; done) | rfl
set_option maxRecDepth 65536 in
set_option maxHeartbeats 40000000 in
theorem c_takes_1 (l : Launch) (Z : State) (a0 : Array Value) (hw : ∀ d ∈ tables_1, d.before a0 Z = true) (a_P a_UNLOCK a_V a_LOCK a_V_BLOCKED a_TRY_P_FAILED a_LOCK_BLOCKED a_P_BLOCKED a_TRY_LOCK_FAILED : Addr) (h0 : Heap) (hK : Known Z h0 a_P a_UNLOCK a_V a_LOCK a_V_BLOCKED a_TRY_P_FAILED a_LOCK_BLOCKED a_P_BLOCKED a_TRY_LOCK_FAILED) :
    Ctr l Z (⟨"com/example/signalbox/signalbox/runtime/Event", "takesCount", "()Z"⟩ : MethodName) prog_23_method_6_code 1 (some .boolean) [] ({ frames := 0, cells := 0, slots := 0, locals := 0 } : Room) #[(.ref a_V)] h0 (Just h0 (.int 1)) := by
  refine Ctr.of (plainFor_of_name pn_0) ?_
  intro p e s m below meth c s₁ hx hby hml hret hown hnm hZ hlk X0 e0
  refine Goes.cast (ef_c_takes_1 m a_V) ?_
  have hK' := hK
  obtain ⟨S_P, S_UNLOCK, S_V, S_LOCK, S_V_BLOCKED, S_TRY_P_FAILED, S_LOCK_BLOCKED, S_P_BLOCKED, S_TRY_LOCK_FAILED, E_P, E_UNLOCK, E_V, E_LOCK, E_V_BLOCKED, E_TRY_P_FAILED, E_LOCK_BLOCKED, E_P_BLOCKED, E_TRY_LOCK_FAILED, F_UNLOCK_ordinal, F_P_ordinal, F_V_ordinal, F_UNLOCK_neverCompleted, F_LOCK_ordinal, F_LOCK_neverCompleted, F_V_BLOCKED_ordinal, F_V_BLOCKED_neverCompleted, F_V_BLOCKED_begunAs, F_TRY_P_FAILED_ordinal, F_TRY_P_FAILED_neverCompleted, F_LOCK_BLOCKED_ordinal, F_LOCK_BLOCKED_neverCompleted, F_LOCK_BLOCKED_begunAs, F_P_BLOCKED_ordinal, F_P_BLOCKED_neverCompleted, F_P_BLOCKED_begunAs, F_TRY_LOCK_FAILED_ordinal, F_TRY_LOCK_FAILED_neverCompleted, F_P_neverCompleted, F_P_begunAs, F_UNLOCK_begunAs, F_V_neverCompleted, F_V_begunAs, F_LOCK_begunAs, F_TRY_P_FAILED_begunAs, F_TRY_LOCK_FAILED_begunAs⟩ := hK'
  refine gLoadAN X0 hx (hb hby d_prog_23_method_6_0) (pc' := 1) rfl rfl rfl ?_
  refine gGetS X0 hx hZ hown (hw _ (List.mem_of_getElem? (i := 13) rfl)) Via.refl e0 S_P (hb hby d_prog_23_method_6_1) (pc' := 4) rfl (fun T1 X1 e1 => ?_)
  refine gAcmpEq X1 hx (hb hby d_prog_23_method_6_4) rfl rfl (pc' := 31) (by decide) (by decide) (pn := 7) rfl (fun (c4 : (Value.ref a_V) = (.ref a_P)) => ?_) (fun (c4 : ¬ (Value.ref a_V) = (.ref a_P)) => ?_)
  · exact absurd (Value.ref.inj c4) (Fld.ne F_V_ordinal F_P_ordinal (by decide))
  · refine gLoadAN X1 hx (hb hby d_prog_23_method_6_7) (pc' := 8) rfl rfl rfl ?_
    refine gGetS X1 hx hZ hown (hw _ (List.mem_of_getElem? (i := 16) rfl)) Via.refl e1 S_V (hb hby d_prog_23_method_6_8) (pc' := 11) rfl (fun T2 X2 e2 => ?_)
    refine gAcmpEq X2 hx (hb hby d_prog_23_method_6_11) rfl rfl (pc' := 31) (by decide) (by decide) (pn := 14) rfl (fun (c11 : (Value.ref a_V) = (.ref a_V)) => ?_) (fun (c11 : ¬ (Value.ref a_V) = (.ref a_V)) => ?_)
    · refine gIconst X2 hx (v := (1 : Int32)) (hb hby d_prog_23_method_6_31) (pc' := 32) rfl rfl ?_
      refine gGoto X2 hx (hb hby d_prog_23_method_6_32) (pc' := 36) (by decide) (by decide) ?_
      exact gRetN X2 hx hlk hret (by simp) (hb hby d_prog_23_method_6_36) (w := (1 : Int32)) rfl (by decide) (by decide) (⟨rfl, e2, rfl⟩)
    · exact absurd rfl c11
theorem d_prog_23_method_6_14 : decode prog_23_method_6_code 14 = .ok (.aload_n 0, 1) := by decide +kernel
theorem d_prog_23_method_6_15 : decode prog_23_method_6_code 15 = .ok (.getfield 76, 3) := by decide +kernel
theorem d_prog_23_method_6_18 : decode prog_23_method_6_code 18 = .ok (.ifCond .eq 17, 3) := by decide +kernel
theorem d_prog_23_method_6_35 : decode prog_23_method_6_code 35 = .ok (.iconst 0, 1) := by decide +kernel
theorem ef_c_takes_2 (m : MethodId) (a_LOCK : Addr) : entryFrame m #[(.ref a_LOCK)] 1 = mkF m 0 #[.val (.ref a_LOCK)] [] := by first | (simp [entryFrame, mkF, argsToLocals, Value.category]; done) | rfl
set_option maxRecDepth 65536 in
set_option maxHeartbeats 40000000 in
theorem c_takes_2 (l : Launch) (Z : State) (a0 : Array Value) (hw : ∀ d ∈ tables_1, d.before a0 Z = true) (a_P a_UNLOCK a_V a_LOCK a_V_BLOCKED a_TRY_P_FAILED a_LOCK_BLOCKED a_P_BLOCKED a_TRY_LOCK_FAILED : Addr) (h0 : Heap) (hK : Known Z h0 a_P a_UNLOCK a_V a_LOCK a_V_BLOCKED a_TRY_P_FAILED a_LOCK_BLOCKED a_P_BLOCKED a_TRY_LOCK_FAILED) :
    Ctr l Z (⟨"com/example/signalbox/signalbox/runtime/Event", "takesCount", "()Z"⟩ : MethodName) prog_23_method_6_code 1 (some .boolean) [] ({ frames := 0, cells := 0, slots := 0, locals := 0 } : Room) #[(.ref a_LOCK)] h0 (Just h0 (.int 0)) := by
  refine Ctr.of (plainFor_of_name pn_0) ?_
  intro p e s m below meth c s₁ hx hby hml hret hown hnm hZ hlk X0 e0
  refine Goes.cast (ef_c_takes_2 m a_LOCK) ?_
  have hK' := hK
  obtain ⟨S_P, S_UNLOCK, S_V, S_LOCK, S_V_BLOCKED, S_TRY_P_FAILED, S_LOCK_BLOCKED, S_P_BLOCKED, S_TRY_LOCK_FAILED, E_P, E_UNLOCK, E_V, E_LOCK, E_V_BLOCKED, E_TRY_P_FAILED, E_LOCK_BLOCKED, E_P_BLOCKED, E_TRY_LOCK_FAILED, F_UNLOCK_ordinal, F_P_ordinal, F_V_ordinal, F_UNLOCK_neverCompleted, F_LOCK_ordinal, F_LOCK_neverCompleted, F_V_BLOCKED_ordinal, F_V_BLOCKED_neverCompleted, F_V_BLOCKED_begunAs, F_TRY_P_FAILED_ordinal, F_TRY_P_FAILED_neverCompleted, F_LOCK_BLOCKED_ordinal, F_LOCK_BLOCKED_neverCompleted, F_LOCK_BLOCKED_begunAs, F_P_BLOCKED_ordinal, F_P_BLOCKED_neverCompleted, F_P_BLOCKED_begunAs, F_TRY_LOCK_FAILED_ordinal, F_TRY_LOCK_FAILED_neverCompleted, F_P_neverCompleted, F_P_begunAs, F_UNLOCK_begunAs, F_V_neverCompleted, F_V_begunAs, F_LOCK_begunAs, F_TRY_P_FAILED_begunAs, F_TRY_LOCK_FAILED_begunAs⟩ := hK'
  refine gLoadAN X0 hx (hb hby d_prog_23_method_6_0) (pc' := 1) rfl rfl rfl ?_
  refine gGetS X0 hx hZ hown (hw _ (List.mem_of_getElem? (i := 13) rfl)) Via.refl e0 S_P (hb hby d_prog_23_method_6_1) (pc' := 4) rfl (fun T1 X1 e1 => ?_)
  refine gAcmpEq X1 hx (hb hby d_prog_23_method_6_4) rfl rfl (pc' := 31) (by decide) (by decide) (pn := 7) rfl (fun (c4 : (Value.ref a_LOCK) = (.ref a_P)) => ?_) (fun (c4 : ¬ (Value.ref a_LOCK) = (.ref a_P)) => ?_)
  · exact absurd (Value.ref.inj c4) (Fld.ne F_LOCK_ordinal F_P_ordinal (by decide))
  · refine gLoadAN X1 hx (hb hby d_prog_23_method_6_7) (pc' := 8) rfl rfl rfl ?_
    refine gGetS X1 hx hZ hown (hw _ (List.mem_of_getElem? (i := 16) rfl)) Via.refl e1 S_V (hb hby d_prog_23_method_6_8) (pc' := 11) rfl (fun T2 X2 e2 => ?_)
    refine gAcmpEq X2 hx (hb hby d_prog_23_method_6_11) rfl rfl (pc' := 31) (by decide) (by decide) (pn := 14) rfl (fun (c11 : (Value.ref a_LOCK) = (.ref a_V)) => ?_) (fun (c11 : ¬ (Value.ref a_LOCK) = (.ref a_V)) => ?_)
    · exact absurd (Value.ref.inj c11) (Fld.ne F_LOCK_ordinal F_V_ordinal (by decide))
    · refine gLoadAN X2 hx (hb hby d_prog_23_method_6_14) (pc' := 15) rfl rfl rfl ?_
      refine gGetF X2 hx hZ hown (hw _ (List.mem_of_getElem? (i := 18) rfl)) Via.refl e2 F_LOCK_neverCompleted (hb hby d_prog_23_method_6_15) (pc' := 18) rfl (fun T3 X3 e3 => ?_)
      refine gIfEqT X3 hx (hb hby d_prog_23_method_6_18) (pc' := 35) (by decide) (by decide) (pn := 21) rfl (fun (c18 : (0 : Int) = (0 : Int)) => ?_) (fun (c18 : ¬ (0 : Int) = (0 : Int)) => ?_)
      · refine gIconst X3 hx (v := (0 : Int32)) (hb hby d_prog_23_method_6_35) (pc' := 36) rfl rfl ?_
        exact gRetN X3 hx hlk hret (by simp) (hb hby d_prog_23_method_6_36) (w := (0 : Int32)) rfl (by decide) (by decide) (⟨rfl, e3, rfl⟩)
      · exact absurd c18 (by decide)
theorem ef_c_takes_3 (m : MethodId) (a_UNLOCK : Addr) : entryFrame m #[(.ref a_UNLOCK)] 1 = mkF m 0 #[.val (.ref a_UNLOCK)] [] := by first | (simp [entryFrame, mkF, argsToLocals, Value.category]; done) | rfl
set_option maxRecDepth 65536 in
set_option maxHeartbeats 40000000 in
theorem c_takes_3 (l : Launch) (Z : State) (a0 : Array Value) (hw : ∀ d ∈ tables_1, d.before a0 Z = true) (a_P a_UNLOCK a_V a_LOCK a_V_BLOCKED a_TRY_P_FAILED a_LOCK_BLOCKED a_P_BLOCKED a_TRY_LOCK_FAILED : Addr) (h0 : Heap) (hK : Known Z h0 a_P a_UNLOCK a_V a_LOCK a_V_BLOCKED a_TRY_P_FAILED a_LOCK_BLOCKED a_P_BLOCKED a_TRY_LOCK_FAILED) :
    Ctr l Z (⟨"com/example/signalbox/signalbox/runtime/Event", "takesCount", "()Z"⟩ : MethodName) prog_23_method_6_code 1 (some .boolean) [] ({ frames := 0, cells := 0, slots := 0, locals := 0 } : Room) #[(.ref a_UNLOCK)] h0 (Just h0 (.int 0)) := by
  refine Ctr.of (plainFor_of_name pn_0) ?_
  intro p e s m below meth c s₁ hx hby hml hret hown hnm hZ hlk X0 e0
  refine Goes.cast (ef_c_takes_3 m a_UNLOCK) ?_
  have hK' := hK
  obtain ⟨S_P, S_UNLOCK, S_V, S_LOCK, S_V_BLOCKED, S_TRY_P_FAILED, S_LOCK_BLOCKED, S_P_BLOCKED, S_TRY_LOCK_FAILED, E_P, E_UNLOCK, E_V, E_LOCK, E_V_BLOCKED, E_TRY_P_FAILED, E_LOCK_BLOCKED, E_P_BLOCKED, E_TRY_LOCK_FAILED, F_UNLOCK_ordinal, F_P_ordinal, F_V_ordinal, F_UNLOCK_neverCompleted, F_LOCK_ordinal, F_LOCK_neverCompleted, F_V_BLOCKED_ordinal, F_V_BLOCKED_neverCompleted, F_V_BLOCKED_begunAs, F_TRY_P_FAILED_ordinal, F_TRY_P_FAILED_neverCompleted, F_LOCK_BLOCKED_ordinal, F_LOCK_BLOCKED_neverCompleted, F_LOCK_BLOCKED_begunAs, F_P_BLOCKED_ordinal, F_P_BLOCKED_neverCompleted, F_P_BLOCKED_begunAs, F_TRY_LOCK_FAILED_ordinal, F_TRY_LOCK_FAILED_neverCompleted, F_P_neverCompleted, F_P_begunAs, F_UNLOCK_begunAs, F_V_neverCompleted, F_V_begunAs, F_LOCK_begunAs, F_TRY_P_FAILED_begunAs, F_TRY_LOCK_FAILED_begunAs⟩ := hK'
  refine gLoadAN X0 hx (hb hby d_prog_23_method_6_0) (pc' := 1) rfl rfl rfl ?_
  refine gGetS X0 hx hZ hown (hw _ (List.mem_of_getElem? (i := 13) rfl)) Via.refl e0 S_P (hb hby d_prog_23_method_6_1) (pc' := 4) rfl (fun T1 X1 e1 => ?_)
  refine gAcmpEq X1 hx (hb hby d_prog_23_method_6_4) rfl rfl (pc' := 31) (by decide) (by decide) (pn := 7) rfl (fun (c4 : (Value.ref a_UNLOCK) = (.ref a_P)) => ?_) (fun (c4 : ¬ (Value.ref a_UNLOCK) = (.ref a_P)) => ?_)
  · exact absurd (Value.ref.inj c4) (Fld.ne F_UNLOCK_ordinal F_P_ordinal (by decide))
  · refine gLoadAN X1 hx (hb hby d_prog_23_method_6_7) (pc' := 8) rfl rfl rfl ?_
    refine gGetS X1 hx hZ hown (hw _ (List.mem_of_getElem? (i := 16) rfl)) Via.refl e1 S_V (hb hby d_prog_23_method_6_8) (pc' := 11) rfl (fun T2 X2 e2 => ?_)
    refine gAcmpEq X2 hx (hb hby d_prog_23_method_6_11) rfl rfl (pc' := 31) (by decide) (by decide) (pn := 14) rfl (fun (c11 : (Value.ref a_UNLOCK) = (.ref a_V)) => ?_) (fun (c11 : ¬ (Value.ref a_UNLOCK) = (.ref a_V)) => ?_)
    · exact absurd (Value.ref.inj c11) (Fld.ne F_UNLOCK_ordinal F_V_ordinal (by decide))
    · refine gLoadAN X2 hx (hb hby d_prog_23_method_6_14) (pc' := 15) rfl rfl rfl ?_
      refine gGetF X2 hx hZ hown (hw _ (List.mem_of_getElem? (i := 18) rfl)) Via.refl e2 F_UNLOCK_neverCompleted (hb hby d_prog_23_method_6_15) (pc' := 18) rfl (fun T3 X3 e3 => ?_)
      refine gIfEqT X3 hx (hb hby d_prog_23_method_6_18) (pc' := 35) (by decide) (by decide) (pn := 21) rfl (fun (c18 : (0 : Int) = (0 : Int)) => ?_) (fun (c18 : ¬ (0 : Int) = (0 : Int)) => ?_)
      · refine gIconst X3 hx (v := (0 : Int32)) (hb hby d_prog_23_method_6_35) (pc' := 36) rfl rfl ?_
        exact gRetN X3 hx hlk hret (by simp) (hb hby d_prog_23_method_6_36) (w := (0 : Int32)) rfl (by decide) (by decide) (⟨rfl, e3, rfl⟩)
      · exact absurd c18 (by decide)
theorem ef_c_takes_4 (m : MethodId) (a_TRY_P_FAILED : Addr) : entryFrame m #[(.ref a_TRY_P_FAILED)] 1 = mkF m 0 #[.val (.ref a_TRY_P_FAILED)] [] := by first | (simp [entryFrame, mkF, argsToLocals, Value.category]; done) | rfl
set_option maxRecDepth 65536 in
set_option maxHeartbeats 40000000 in
theorem c_takes_4 (l : Launch) (Z : State) (a0 : Array Value) (hw : ∀ d ∈ tables_1, d.before a0 Z = true) (a_P a_UNLOCK a_V a_LOCK a_V_BLOCKED a_TRY_P_FAILED a_LOCK_BLOCKED a_P_BLOCKED a_TRY_LOCK_FAILED : Addr) (h0 : Heap) (hK : Known Z h0 a_P a_UNLOCK a_V a_LOCK a_V_BLOCKED a_TRY_P_FAILED a_LOCK_BLOCKED a_P_BLOCKED a_TRY_LOCK_FAILED) :
    Ctr l Z (⟨"com/example/signalbox/signalbox/runtime/Event", "takesCount", "()Z"⟩ : MethodName) prog_23_method_6_code 1 (some .boolean) [] ({ frames := 0, cells := 0, slots := 0, locals := 0 } : Room) #[(.ref a_TRY_P_FAILED)] h0 (Just h0 (.int 0)) := by
  refine Ctr.of (plainFor_of_name pn_0) ?_
  intro p e s m below meth c s₁ hx hby hml hret hown hnm hZ hlk X0 e0
  refine Goes.cast (ef_c_takes_4 m a_TRY_P_FAILED) ?_
  have hK' := hK
  obtain ⟨S_P, S_UNLOCK, S_V, S_LOCK, S_V_BLOCKED, S_TRY_P_FAILED, S_LOCK_BLOCKED, S_P_BLOCKED, S_TRY_LOCK_FAILED, E_P, E_UNLOCK, E_V, E_LOCK, E_V_BLOCKED, E_TRY_P_FAILED, E_LOCK_BLOCKED, E_P_BLOCKED, E_TRY_LOCK_FAILED, F_UNLOCK_ordinal, F_P_ordinal, F_V_ordinal, F_UNLOCK_neverCompleted, F_LOCK_ordinal, F_LOCK_neverCompleted, F_V_BLOCKED_ordinal, F_V_BLOCKED_neverCompleted, F_V_BLOCKED_begunAs, F_TRY_P_FAILED_ordinal, F_TRY_P_FAILED_neverCompleted, F_LOCK_BLOCKED_ordinal, F_LOCK_BLOCKED_neverCompleted, F_LOCK_BLOCKED_begunAs, F_P_BLOCKED_ordinal, F_P_BLOCKED_neverCompleted, F_P_BLOCKED_begunAs, F_TRY_LOCK_FAILED_ordinal, F_TRY_LOCK_FAILED_neverCompleted, F_P_neverCompleted, F_P_begunAs, F_UNLOCK_begunAs, F_V_neverCompleted, F_V_begunAs, F_LOCK_begunAs, F_TRY_P_FAILED_begunAs, F_TRY_LOCK_FAILED_begunAs⟩ := hK'
  refine gLoadAN X0 hx (hb hby d_prog_23_method_6_0) (pc' := 1) rfl rfl rfl ?_
  refine gGetS X0 hx hZ hown (hw _ (List.mem_of_getElem? (i := 13) rfl)) Via.refl e0 S_P (hb hby d_prog_23_method_6_1) (pc' := 4) rfl (fun T1 X1 e1 => ?_)
  refine gAcmpEq X1 hx (hb hby d_prog_23_method_6_4) rfl rfl (pc' := 31) (by decide) (by decide) (pn := 7) rfl (fun (c4 : (Value.ref a_TRY_P_FAILED) = (.ref a_P)) => ?_) (fun (c4 : ¬ (Value.ref a_TRY_P_FAILED) = (.ref a_P)) => ?_)
  · exact absurd (Value.ref.inj c4) (Fld.ne F_TRY_P_FAILED_ordinal F_P_ordinal (by decide))
  · refine gLoadAN X1 hx (hb hby d_prog_23_method_6_7) (pc' := 8) rfl rfl rfl ?_
    refine gGetS X1 hx hZ hown (hw _ (List.mem_of_getElem? (i := 16) rfl)) Via.refl e1 S_V (hb hby d_prog_23_method_6_8) (pc' := 11) rfl (fun T2 X2 e2 => ?_)
    refine gAcmpEq X2 hx (hb hby d_prog_23_method_6_11) rfl rfl (pc' := 31) (by decide) (by decide) (pn := 14) rfl (fun (c11 : (Value.ref a_TRY_P_FAILED) = (.ref a_V)) => ?_) (fun (c11 : ¬ (Value.ref a_TRY_P_FAILED) = (.ref a_V)) => ?_)
    · exact absurd (Value.ref.inj c11) (Fld.ne F_TRY_P_FAILED_ordinal F_V_ordinal (by decide))
    · refine gLoadAN X2 hx (hb hby d_prog_23_method_6_14) (pc' := 15) rfl rfl rfl ?_
      refine gGetF X2 hx hZ hown (hw _ (List.mem_of_getElem? (i := 18) rfl)) Via.refl e2 F_TRY_P_FAILED_neverCompleted (hb hby d_prog_23_method_6_15) (pc' := 18) rfl (fun T3 X3 e3 => ?_)
      refine gIfEqT X3 hx (hb hby d_prog_23_method_6_18) (pc' := 35) (by decide) (by decide) (pn := 21) rfl (fun (c18 : (0 : Int) = (0 : Int)) => ?_) (fun (c18 : ¬ (0 : Int) = (0 : Int)) => ?_)
      · refine gIconst X3 hx (v := (0 : Int32)) (hb hby d_prog_23_method_6_35) (pc' := 36) rfl rfl ?_
        exact gRetN X3 hx hlk hret (by simp) (hb hby d_prog_23_method_6_36) (w := (0 : Int32)) rfl (by decide) (by decide) (⟨rfl, e3, rfl⟩)
      · exact absurd c18 (by decide)
theorem ef_c_takes_5 (m : MethodId) (a_TRY_LOCK_FAILED : Addr) : entryFrame m #[(.ref a_TRY_LOCK_FAILED)] 1 = mkF m 0 #[.val (.ref a_TRY_LOCK_FAILED)] [] := by first | (simp [entryFrame, mkF, argsToLocals, Value.category]; done) | rfl
set_option maxRecDepth 65536 in
set_option maxHeartbeats 40000000 in
theorem c_takes_5 (l : Launch) (Z : State) (a0 : Array Value) (hw : ∀ d ∈ tables_1, d.before a0 Z = true) (a_P a_UNLOCK a_V a_LOCK a_V_BLOCKED a_TRY_P_FAILED a_LOCK_BLOCKED a_P_BLOCKED a_TRY_LOCK_FAILED : Addr) (h0 : Heap) (hK : Known Z h0 a_P a_UNLOCK a_V a_LOCK a_V_BLOCKED a_TRY_P_FAILED a_LOCK_BLOCKED a_P_BLOCKED a_TRY_LOCK_FAILED) :
    Ctr l Z (⟨"com/example/signalbox/signalbox/runtime/Event", "takesCount", "()Z"⟩ : MethodName) prog_23_method_6_code 1 (some .boolean) [] ({ frames := 0, cells := 0, slots := 0, locals := 0 } : Room) #[(.ref a_TRY_LOCK_FAILED)] h0 (Just h0 (.int 0)) := by
  refine Ctr.of (plainFor_of_name pn_0) ?_
  intro p e s m below meth c s₁ hx hby hml hret hown hnm hZ hlk X0 e0
  refine Goes.cast (ef_c_takes_5 m a_TRY_LOCK_FAILED) ?_
  have hK' := hK
  obtain ⟨S_P, S_UNLOCK, S_V, S_LOCK, S_V_BLOCKED, S_TRY_P_FAILED, S_LOCK_BLOCKED, S_P_BLOCKED, S_TRY_LOCK_FAILED, E_P, E_UNLOCK, E_V, E_LOCK, E_V_BLOCKED, E_TRY_P_FAILED, E_LOCK_BLOCKED, E_P_BLOCKED, E_TRY_LOCK_FAILED, F_UNLOCK_ordinal, F_P_ordinal, F_V_ordinal, F_UNLOCK_neverCompleted, F_LOCK_ordinal, F_LOCK_neverCompleted, F_V_BLOCKED_ordinal, F_V_BLOCKED_neverCompleted, F_V_BLOCKED_begunAs, F_TRY_P_FAILED_ordinal, F_TRY_P_FAILED_neverCompleted, F_LOCK_BLOCKED_ordinal, F_LOCK_BLOCKED_neverCompleted, F_LOCK_BLOCKED_begunAs, F_P_BLOCKED_ordinal, F_P_BLOCKED_neverCompleted, F_P_BLOCKED_begunAs, F_TRY_LOCK_FAILED_ordinal, F_TRY_LOCK_FAILED_neverCompleted, F_P_neverCompleted, F_P_begunAs, F_UNLOCK_begunAs, F_V_neverCompleted, F_V_begunAs, F_LOCK_begunAs, F_TRY_P_FAILED_begunAs, F_TRY_LOCK_FAILED_begunAs⟩ := hK'
  refine gLoadAN X0 hx (hb hby d_prog_23_method_6_0) (pc' := 1) rfl rfl rfl ?_
  refine gGetS X0 hx hZ hown (hw _ (List.mem_of_getElem? (i := 13) rfl)) Via.refl e0 S_P (hb hby d_prog_23_method_6_1) (pc' := 4) rfl (fun T1 X1 e1 => ?_)
  refine gAcmpEq X1 hx (hb hby d_prog_23_method_6_4) rfl rfl (pc' := 31) (by decide) (by decide) (pn := 7) rfl (fun (c4 : (Value.ref a_TRY_LOCK_FAILED) = (.ref a_P)) => ?_) (fun (c4 : ¬ (Value.ref a_TRY_LOCK_FAILED) = (.ref a_P)) => ?_)
  · exact absurd (Value.ref.inj c4) (Fld.ne F_TRY_LOCK_FAILED_ordinal F_P_ordinal (by decide))
  · refine gLoadAN X1 hx (hb hby d_prog_23_method_6_7) (pc' := 8) rfl rfl rfl ?_
    refine gGetS X1 hx hZ hown (hw _ (List.mem_of_getElem? (i := 16) rfl)) Via.refl e1 S_V (hb hby d_prog_23_method_6_8) (pc' := 11) rfl (fun T2 X2 e2 => ?_)
    refine gAcmpEq X2 hx (hb hby d_prog_23_method_6_11) rfl rfl (pc' := 31) (by decide) (by decide) (pn := 14) rfl (fun (c11 : (Value.ref a_TRY_LOCK_FAILED) = (.ref a_V)) => ?_) (fun (c11 : ¬ (Value.ref a_TRY_LOCK_FAILED) = (.ref a_V)) => ?_)
    · exact absurd (Value.ref.inj c11) (Fld.ne F_TRY_LOCK_FAILED_ordinal F_V_ordinal (by decide))
    · refine gLoadAN X2 hx (hb hby d_prog_23_method_6_14) (pc' := 15) rfl rfl rfl ?_
      refine gGetF X2 hx hZ hown (hw _ (List.mem_of_getElem? (i := 18) rfl)) Via.refl e2 F_TRY_LOCK_FAILED_neverCompleted (hb hby d_prog_23_method_6_15) (pc' := 18) rfl (fun T3 X3 e3 => ?_)
      refine gIfEqT X3 hx (hb hby d_prog_23_method_6_18) (pc' := 35) (by decide) (by decide) (pn := 21) rfl (fun (c18 : (0 : Int) = (0 : Int)) => ?_) (fun (c18 : ¬ (0 : Int) = (0 : Int)) => ?_)
      · refine gIconst X3 hx (v := (0 : Int32)) (hb hby d_prog_23_method_6_35) (pc' := 36) rfl rfl ?_
        exact gRetN X3 hx hlk hret (by simp) (hb hby d_prog_23_method_6_36) (w := (0 : Int32)) rfl (by decide) (by decide) (⟨rfl, e3, rfl⟩)
      · exact absurd c18 (by decide)
theorem d_prog_23_method_6_21 : decode prog_23_method_6_code 21 = .ok (.aload_n 0, 1) := by decide +kernel
theorem d_prog_23_method_6_22 : decode prog_23_method_6_code 22 = .ok (.getfield 73, 3) := by decide +kernel
theorem d_prog_23_method_6_25 : decode prog_23_method_6_code 25 = .ok (.invokevirtual 80, 3) := by decide +kernel
theorem pd_0 : parseMethodDescriptor "()Z" = some ⟨[], some .boolean⟩ := by decide +kernel
theorem d_prog_23_method_6_28 : decode prog_23_method_6_code 28 = .ok (.ifCond .eq 7, 3) := by decide +kernel
theorem ef_c_takes_6 (m : MethodId) (a_P_BLOCKED : Addr) : entryFrame m #[(.ref a_P_BLOCKED)] 1 = mkF m 0 #[.val (.ref a_P_BLOCKED)] [] := by first | (simp [entryFrame, mkF, argsToLocals, Value.category]; done) | rfl
set_option maxRecDepth 65536 in
set_option maxHeartbeats 40000000 in
theorem c_takes_6 (l : Launch) (Z : State) (a0 : Array Value) (hw : ∀ d ∈ tables_1, d.before a0 Z = true) (a_P a_UNLOCK a_V a_LOCK a_V_BLOCKED a_TRY_P_FAILED a_LOCK_BLOCKED a_P_BLOCKED a_TRY_LOCK_FAILED : Addr) (h0 : Heap) (hK : Known Z h0 a_P a_UNLOCK a_V a_LOCK a_V_BLOCKED a_TRY_P_FAILED a_LOCK_BLOCKED a_P_BLOCKED a_TRY_LOCK_FAILED) :
    Ctr l Z (⟨"com/example/signalbox/signalbox/runtime/Event", "takesCount", "()Z"⟩ : MethodName) prog_23_method_6_code 1 (some .boolean) [] ({ frames := 1, cells := 0, slots := 0, locals := 12 } : Room) #[(.ref a_P_BLOCKED)] h0 (Just h0 (.int 1)) := by
  refine Ctr.of (plainFor_of_name pn_0) ?_
  intro p e s m below meth c s₁ hx hby hml hret hown hnm hZ hlk X0 e0
  refine Goes.cast (ef_c_takes_6 m a_P_BLOCKED) ?_
  have hK' := hK
  obtain ⟨S_P, S_UNLOCK, S_V, S_LOCK, S_V_BLOCKED, S_TRY_P_FAILED, S_LOCK_BLOCKED, S_P_BLOCKED, S_TRY_LOCK_FAILED, E_P, E_UNLOCK, E_V, E_LOCK, E_V_BLOCKED, E_TRY_P_FAILED, E_LOCK_BLOCKED, E_P_BLOCKED, E_TRY_LOCK_FAILED, F_UNLOCK_ordinal, F_P_ordinal, F_V_ordinal, F_UNLOCK_neverCompleted, F_LOCK_ordinal, F_LOCK_neverCompleted, F_V_BLOCKED_ordinal, F_V_BLOCKED_neverCompleted, F_V_BLOCKED_begunAs, F_TRY_P_FAILED_ordinal, F_TRY_P_FAILED_neverCompleted, F_LOCK_BLOCKED_ordinal, F_LOCK_BLOCKED_neverCompleted, F_LOCK_BLOCKED_begunAs, F_P_BLOCKED_ordinal, F_P_BLOCKED_neverCompleted, F_P_BLOCKED_begunAs, F_TRY_LOCK_FAILED_ordinal, F_TRY_LOCK_FAILED_neverCompleted, F_P_neverCompleted, F_P_begunAs, F_UNLOCK_begunAs, F_V_neverCompleted, F_V_begunAs, F_LOCK_begunAs, F_TRY_P_FAILED_begunAs, F_TRY_LOCK_FAILED_begunAs⟩ := hK'
  refine gLoadAN X0 hx (hb hby d_prog_23_method_6_0) (pc' := 1) rfl rfl rfl ?_
  refine gGetS X0 hx hZ hown (hw _ (List.mem_of_getElem? (i := 13) rfl)) Via.refl e0 S_P (hb hby d_prog_23_method_6_1) (pc' := 4) rfl (fun T1 X1 e1 => ?_)
  refine gAcmpEq X1 hx (hb hby d_prog_23_method_6_4) rfl rfl (pc' := 31) (by decide) (by decide) (pn := 7) rfl (fun (c4 : (Value.ref a_P_BLOCKED) = (.ref a_P)) => ?_) (fun (c4 : ¬ (Value.ref a_P_BLOCKED) = (.ref a_P)) => ?_)
  · exact absurd (Value.ref.inj c4) (Fld.ne F_P_BLOCKED_ordinal F_P_ordinal (by decide))
  · refine gLoadAN X1 hx (hb hby d_prog_23_method_6_7) (pc' := 8) rfl rfl rfl ?_
    refine gGetS X1 hx hZ hown (hw _ (List.mem_of_getElem? (i := 16) rfl)) Via.refl e1 S_V (hb hby d_prog_23_method_6_8) (pc' := 11) rfl (fun T2 X2 e2 => ?_)
    refine gAcmpEq X2 hx (hb hby d_prog_23_method_6_11) rfl rfl (pc' := 31) (by decide) (by decide) (pn := 14) rfl (fun (c11 : (Value.ref a_P_BLOCKED) = (.ref a_V)) => ?_) (fun (c11 : ¬ (Value.ref a_P_BLOCKED) = (.ref a_V)) => ?_)
    · exact absurd (Value.ref.inj c11) (Fld.ne F_P_BLOCKED_ordinal F_V_ordinal (by decide))
    · refine gLoadAN X2 hx (hb hby d_prog_23_method_6_14) (pc' := 15) rfl rfl rfl ?_
      refine gGetF X2 hx hZ hown (hw _ (List.mem_of_getElem? (i := 18) rfl)) Via.refl e2 F_P_BLOCKED_neverCompleted (hb hby d_prog_23_method_6_15) (pc' := 18) rfl (fun T3 X3 e3 => ?_)
      refine gIfEqT X3 hx (hb hby d_prog_23_method_6_18) (pc' := 35) (by decide) (by decide) (pn := 21) rfl (fun (c18 : (1 : Int) = (0 : Int)) => ?_) (fun (c18 : ¬ (1 : Int) = (0 : Int)) => ?_)
      · exact absurd c18 (by decide)
      · refine gLoadAN X3 hx (hb hby d_prog_23_method_6_21) (pc' := 22) rfl rfl rfl ?_
        refine gGetF X3 hx hZ hown (hw _ (List.mem_of_getElem? (i := 25) rfl)) Via.refl e3 F_P_BLOCKED_begunAs (hb hby d_prog_23_method_6_22) (pc' := 25) rfl (fun T4 X4 e4 => ?_)
        refine gCallVJ X4 hx hZ (y := (⟨"com/example/signalbox/signalbox/runtime/Event", "takesCount", "()Z"⟩ : MethodName)) hown e4 (by rw [hml]; rfl) E_P (hw _ (List.mem_of_getElem? (i := 27) rfl)) (hw _ (List.mem_of_getElem? (i := 9) rfl)) (hw _ (List.mem_of_getElem? (i := 11) rfl)) (hw _ (List.mem_of_getElem? (i := 10) rfl)) (hw _ (List.mem_of_getElem? (i := 6) rfl)) (hw _ (List.mem_of_getElem? (i := 12) rfl)) (by decide) (argsL := []) (st := []) (c_takes_0 l Z a0 hw a_P a_UNLOCK a_V a_LOCK a_V_BLOCKED a_TRY_P_FAILED a_LOCK_BLOCKED a_P_BLOCKED a_TRY_LOCK_FAILED h0 hK) (lenOf pd_0 rfl) (hb hby d_prog_23_method_6_25) (pc' := 28) rfl rfl rfl rfl (by decide) (W := 0) (Nat.le_of_eq rfl) (by decide) (by decide) (by decide) ?_
        intro T5 X5 e5
        refine gIfEqT X5 hx (hb hby d_prog_23_method_6_28) (pc' := 35) (by decide) (by decide) (pn := 31) rfl (fun (c28 : (1 : Int) = (0 : Int)) => ?_) (fun (c28 : ¬ (1 : Int) = (0 : Int)) => ?_)
        · exact absurd c28 (by decide)
        · refine gIconst X5 hx (v := (1 : Int32)) (hb hby d_prog_23_method_6_31) (pc' := 32) rfl rfl ?_
          refine gGoto X5 hx (hb hby d_prog_23_method_6_32) (pc' := 36) (by decide) (by decide) ?_
          exact gRetN X5 hx hlk hret (by simp) (hb hby d_prog_23_method_6_36) (w := (1 : Int32)) rfl (by decide) (by decide) (⟨rfl, e5, rfl⟩)
theorem ef_c_takes_7 (m : MethodId) (a_V_BLOCKED : Addr) : entryFrame m #[(.ref a_V_BLOCKED)] 1 = mkF m 0 #[.val (.ref a_V_BLOCKED)] [] := by first | (simp [entryFrame, mkF, argsToLocals, Value.category]; done) | rfl
set_option maxRecDepth 65536 in
set_option maxHeartbeats 40000000 in
theorem c_takes_7 (l : Launch) (Z : State) (a0 : Array Value) (hw : ∀ d ∈ tables_1, d.before a0 Z = true) (a_P a_UNLOCK a_V a_LOCK a_V_BLOCKED a_TRY_P_FAILED a_LOCK_BLOCKED a_P_BLOCKED a_TRY_LOCK_FAILED : Addr) (h0 : Heap) (hK : Known Z h0 a_P a_UNLOCK a_V a_LOCK a_V_BLOCKED a_TRY_P_FAILED a_LOCK_BLOCKED a_P_BLOCKED a_TRY_LOCK_FAILED) :
    Ctr l Z (⟨"com/example/signalbox/signalbox/runtime/Event", "takesCount", "()Z"⟩ : MethodName) prog_23_method_6_code 1 (some .boolean) [] ({ frames := 1, cells := 0, slots := 0, locals := 12 } : Room) #[(.ref a_V_BLOCKED)] h0 (Just h0 (.int 1)) := by
  refine Ctr.of (plainFor_of_name pn_0) ?_
  intro p e s m below meth c s₁ hx hby hml hret hown hnm hZ hlk X0 e0
  refine Goes.cast (ef_c_takes_7 m a_V_BLOCKED) ?_
  have hK' := hK
  obtain ⟨S_P, S_UNLOCK, S_V, S_LOCK, S_V_BLOCKED, S_TRY_P_FAILED, S_LOCK_BLOCKED, S_P_BLOCKED, S_TRY_LOCK_FAILED, E_P, E_UNLOCK, E_V, E_LOCK, E_V_BLOCKED, E_TRY_P_FAILED, E_LOCK_BLOCKED, E_P_BLOCKED, E_TRY_LOCK_FAILED, F_UNLOCK_ordinal, F_P_ordinal, F_V_ordinal, F_UNLOCK_neverCompleted, F_LOCK_ordinal, F_LOCK_neverCompleted, F_V_BLOCKED_ordinal, F_V_BLOCKED_neverCompleted, F_V_BLOCKED_begunAs, F_TRY_P_FAILED_ordinal, F_TRY_P_FAILED_neverCompleted, F_LOCK_BLOCKED_ordinal, F_LOCK_BLOCKED_neverCompleted, F_LOCK_BLOCKED_begunAs, F_P_BLOCKED_ordinal, F_P_BLOCKED_neverCompleted, F_P_BLOCKED_begunAs, F_TRY_LOCK_FAILED_ordinal, F_TRY_LOCK_FAILED_neverCompleted, F_P_neverCompleted, F_P_begunAs, F_UNLOCK_begunAs, F_V_neverCompleted, F_V_begunAs, F_LOCK_begunAs, F_TRY_P_FAILED_begunAs, F_TRY_LOCK_FAILED_begunAs⟩ := hK'
  refine gLoadAN X0 hx (hb hby d_prog_23_method_6_0) (pc' := 1) rfl rfl rfl ?_
  refine gGetS X0 hx hZ hown (hw _ (List.mem_of_getElem? (i := 13) rfl)) Via.refl e0 S_P (hb hby d_prog_23_method_6_1) (pc' := 4) rfl (fun T1 X1 e1 => ?_)
  refine gAcmpEq X1 hx (hb hby d_prog_23_method_6_4) rfl rfl (pc' := 31) (by decide) (by decide) (pn := 7) rfl (fun (c4 : (Value.ref a_V_BLOCKED) = (.ref a_P)) => ?_) (fun (c4 : ¬ (Value.ref a_V_BLOCKED) = (.ref a_P)) => ?_)
  · exact absurd (Value.ref.inj c4) (Fld.ne F_V_BLOCKED_ordinal F_P_ordinal (by decide))
  · refine gLoadAN X1 hx (hb hby d_prog_23_method_6_7) (pc' := 8) rfl rfl rfl ?_
    refine gGetS X1 hx hZ hown (hw _ (List.mem_of_getElem? (i := 16) rfl)) Via.refl e1 S_V (hb hby d_prog_23_method_6_8) (pc' := 11) rfl (fun T2 X2 e2 => ?_)
    refine gAcmpEq X2 hx (hb hby d_prog_23_method_6_11) rfl rfl (pc' := 31) (by decide) (by decide) (pn := 14) rfl (fun (c11 : (Value.ref a_V_BLOCKED) = (.ref a_V)) => ?_) (fun (c11 : ¬ (Value.ref a_V_BLOCKED) = (.ref a_V)) => ?_)
    · exact absurd (Value.ref.inj c11) (Fld.ne F_V_BLOCKED_ordinal F_V_ordinal (by decide))
    · refine gLoadAN X2 hx (hb hby d_prog_23_method_6_14) (pc' := 15) rfl rfl rfl ?_
      refine gGetF X2 hx hZ hown (hw _ (List.mem_of_getElem? (i := 18) rfl)) Via.refl e2 F_V_BLOCKED_neverCompleted (hb hby d_prog_23_method_6_15) (pc' := 18) rfl (fun T3 X3 e3 => ?_)
      refine gIfEqT X3 hx (hb hby d_prog_23_method_6_18) (pc' := 35) (by decide) (by decide) (pn := 21) rfl (fun (c18 : (1 : Int) = (0 : Int)) => ?_) (fun (c18 : ¬ (1 : Int) = (0 : Int)) => ?_)
      · exact absurd c18 (by decide)
      · refine gLoadAN X3 hx (hb hby d_prog_23_method_6_21) (pc' := 22) rfl rfl rfl ?_
        refine gGetF X3 hx hZ hown (hw _ (List.mem_of_getElem? (i := 25) rfl)) Via.refl e3 F_V_BLOCKED_begunAs (hb hby d_prog_23_method_6_22) (pc' := 25) rfl (fun T4 X4 e4 => ?_)
        refine gCallVJ X4 hx hZ (y := (⟨"com/example/signalbox/signalbox/runtime/Event", "takesCount", "()Z"⟩ : MethodName)) hown e4 (by rw [hml]; rfl) E_V (hw _ (List.mem_of_getElem? (i := 27) rfl)) (hw _ (List.mem_of_getElem? (i := 9) rfl)) (hw _ (List.mem_of_getElem? (i := 11) rfl)) (hw _ (List.mem_of_getElem? (i := 10) rfl)) (hw _ (List.mem_of_getElem? (i := 6) rfl)) (hw _ (List.mem_of_getElem? (i := 12) rfl)) (by decide) (argsL := []) (st := []) (c_takes_1 l Z a0 hw a_P a_UNLOCK a_V a_LOCK a_V_BLOCKED a_TRY_P_FAILED a_LOCK_BLOCKED a_P_BLOCKED a_TRY_LOCK_FAILED h0 hK) (lenOf pd_0 rfl) (hb hby d_prog_23_method_6_25) (pc' := 28) rfl rfl rfl rfl (by decide) (W := 0) (Nat.le_of_eq rfl) (by decide) (by decide) (by decide) ?_
        intro T5 X5 e5
        refine gIfEqT X5 hx (hb hby d_prog_23_method_6_28) (pc' := 35) (by decide) (by decide) (pn := 31) rfl (fun (c28 : (1 : Int) = (0 : Int)) => ?_) (fun (c28 : ¬ (1 : Int) = (0 : Int)) => ?_)
        · exact absurd c28 (by decide)
        · refine gIconst X5 hx (v := (1 : Int32)) (hb hby d_prog_23_method_6_31) (pc' := 32) rfl rfl ?_
          refine gGoto X5 hx (hb hby d_prog_23_method_6_32) (pc' := 36) (by decide) (by decide) ?_
          exact gRetN X5 hx hlk hret (by simp) (hb hby d_prog_23_method_6_36) (w := (1 : Int32)) rfl (by decide) (by decide) (⟨rfl, e5, rfl⟩)
theorem ef_c_takes_8 (m : MethodId) (a_LOCK_BLOCKED : Addr) : entryFrame m #[(.ref a_LOCK_BLOCKED)] 1 = mkF m 0 #[.val (.ref a_LOCK_BLOCKED)] [] := by first | (simp [entryFrame, mkF, argsToLocals, Value.category]; done) | rfl
set_option maxRecDepth 65536 in
set_option maxHeartbeats 40000000 in
theorem c_takes_8 (l : Launch) (Z : State) (a0 : Array Value) (hw : ∀ d ∈ tables_1, d.before a0 Z = true) (a_P a_UNLOCK a_V a_LOCK a_V_BLOCKED a_TRY_P_FAILED a_LOCK_BLOCKED a_P_BLOCKED a_TRY_LOCK_FAILED : Addr) (h0 : Heap) (hK : Known Z h0 a_P a_UNLOCK a_V a_LOCK a_V_BLOCKED a_TRY_P_FAILED a_LOCK_BLOCKED a_P_BLOCKED a_TRY_LOCK_FAILED) :
    Ctr l Z (⟨"com/example/signalbox/signalbox/runtime/Event", "takesCount", "()Z"⟩ : MethodName) prog_23_method_6_code 1 (some .boolean) [] ({ frames := 1, cells := 0, slots := 0, locals := 12 } : Room) #[(.ref a_LOCK_BLOCKED)] h0 (Just h0 (.int 0)) := by
  refine Ctr.of (plainFor_of_name pn_0) ?_
  intro p e s m below meth c s₁ hx hby hml hret hown hnm hZ hlk X0 e0
  refine Goes.cast (ef_c_takes_8 m a_LOCK_BLOCKED) ?_
  have hK' := hK
  obtain ⟨S_P, S_UNLOCK, S_V, S_LOCK, S_V_BLOCKED, S_TRY_P_FAILED, S_LOCK_BLOCKED, S_P_BLOCKED, S_TRY_LOCK_FAILED, E_P, E_UNLOCK, E_V, E_LOCK, E_V_BLOCKED, E_TRY_P_FAILED, E_LOCK_BLOCKED, E_P_BLOCKED, E_TRY_LOCK_FAILED, F_UNLOCK_ordinal, F_P_ordinal, F_V_ordinal, F_UNLOCK_neverCompleted, F_LOCK_ordinal, F_LOCK_neverCompleted, F_V_BLOCKED_ordinal, F_V_BLOCKED_neverCompleted, F_V_BLOCKED_begunAs, F_TRY_P_FAILED_ordinal, F_TRY_P_FAILED_neverCompleted, F_LOCK_BLOCKED_ordinal, F_LOCK_BLOCKED_neverCompleted, F_LOCK_BLOCKED_begunAs, F_P_BLOCKED_ordinal, F_P_BLOCKED_neverCompleted, F_P_BLOCKED_begunAs, F_TRY_LOCK_FAILED_ordinal, F_TRY_LOCK_FAILED_neverCompleted, F_P_neverCompleted, F_P_begunAs, F_UNLOCK_begunAs, F_V_neverCompleted, F_V_begunAs, F_LOCK_begunAs, F_TRY_P_FAILED_begunAs, F_TRY_LOCK_FAILED_begunAs⟩ := hK'
  refine gLoadAN X0 hx (hb hby d_prog_23_method_6_0) (pc' := 1) rfl rfl rfl ?_
  refine gGetS X0 hx hZ hown (hw _ (List.mem_of_getElem? (i := 13) rfl)) Via.refl e0 S_P (hb hby d_prog_23_method_6_1) (pc' := 4) rfl (fun T1 X1 e1 => ?_)
  refine gAcmpEq X1 hx (hb hby d_prog_23_method_6_4) rfl rfl (pc' := 31) (by decide) (by decide) (pn := 7) rfl (fun (c4 : (Value.ref a_LOCK_BLOCKED) = (.ref a_P)) => ?_) (fun (c4 : ¬ (Value.ref a_LOCK_BLOCKED) = (.ref a_P)) => ?_)
  · exact absurd (Value.ref.inj c4) (Fld.ne F_LOCK_BLOCKED_ordinal F_P_ordinal (by decide))
  · refine gLoadAN X1 hx (hb hby d_prog_23_method_6_7) (pc' := 8) rfl rfl rfl ?_
    refine gGetS X1 hx hZ hown (hw _ (List.mem_of_getElem? (i := 16) rfl)) Via.refl e1 S_V (hb hby d_prog_23_method_6_8) (pc' := 11) rfl (fun T2 X2 e2 => ?_)
    refine gAcmpEq X2 hx (hb hby d_prog_23_method_6_11) rfl rfl (pc' := 31) (by decide) (by decide) (pn := 14) rfl (fun (c11 : (Value.ref a_LOCK_BLOCKED) = (.ref a_V)) => ?_) (fun (c11 : ¬ (Value.ref a_LOCK_BLOCKED) = (.ref a_V)) => ?_)
    · exact absurd (Value.ref.inj c11) (Fld.ne F_LOCK_BLOCKED_ordinal F_V_ordinal (by decide))
    · refine gLoadAN X2 hx (hb hby d_prog_23_method_6_14) (pc' := 15) rfl rfl rfl ?_
      refine gGetF X2 hx hZ hown (hw _ (List.mem_of_getElem? (i := 18) rfl)) Via.refl e2 F_LOCK_BLOCKED_neverCompleted (hb hby d_prog_23_method_6_15) (pc' := 18) rfl (fun T3 X3 e3 => ?_)
      refine gIfEqT X3 hx (hb hby d_prog_23_method_6_18) (pc' := 35) (by decide) (by decide) (pn := 21) rfl (fun (c18 : (1 : Int) = (0 : Int)) => ?_) (fun (c18 : ¬ (1 : Int) = (0 : Int)) => ?_)
      · exact absurd c18 (by decide)
      · refine gLoadAN X3 hx (hb hby d_prog_23_method_6_21) (pc' := 22) rfl rfl rfl ?_
        refine gGetF X3 hx hZ hown (hw _ (List.mem_of_getElem? (i := 25) rfl)) Via.refl e3 F_LOCK_BLOCKED_begunAs (hb hby d_prog_23_method_6_22) (pc' := 25) rfl (fun T4 X4 e4 => ?_)
        refine gCallVJ X4 hx hZ (y := (⟨"com/example/signalbox/signalbox/runtime/Event", "takesCount", "()Z"⟩ : MethodName)) hown e4 (by rw [hml]; rfl) E_LOCK (hw _ (List.mem_of_getElem? (i := 27) rfl)) (hw _ (List.mem_of_getElem? (i := 9) rfl)) (hw _ (List.mem_of_getElem? (i := 11) rfl)) (hw _ (List.mem_of_getElem? (i := 10) rfl)) (hw _ (List.mem_of_getElem? (i := 6) rfl)) (hw _ (List.mem_of_getElem? (i := 12) rfl)) (by decide) (argsL := []) (st := []) (c_takes_2 l Z a0 hw a_P a_UNLOCK a_V a_LOCK a_V_BLOCKED a_TRY_P_FAILED a_LOCK_BLOCKED a_P_BLOCKED a_TRY_LOCK_FAILED h0 hK) (lenOf pd_0 rfl) (hb hby d_prog_23_method_6_25) (pc' := 28) rfl rfl rfl rfl (by decide) (W := 0) (Nat.le_of_eq rfl) (by decide) (by decide) (by decide) ?_
        intro T5 X5 e5
        refine gIfEqT X5 hx (hb hby d_prog_23_method_6_28) (pc' := 35) (by decide) (by decide) (pn := 31) rfl (fun (c28 : (0 : Int) = (0 : Int)) => ?_) (fun (c28 : ¬ (0 : Int) = (0 : Int)) => ?_)
        · refine gIconst X5 hx (v := (0 : Int32)) (hb hby d_prog_23_method_6_35) (pc' := 36) rfl rfl ?_
          exact gRetN X5 hx hlk hret (by simp) (hb hby d_prog_23_method_6_36) (w := (0 : Int32)) rfl (by decide) (by decide) (⟨rfl, e5, rfl⟩)
        · exact absurd c28 (by decide)
theorem own_rem (x : Int32) : (x &&& 2147483647) % 9 = 0 ∨ (x &&& 2147483647) % 9 = 1 ∨ (x &&& 2147483647) % 9 = 2 ∨ (x &&& 2147483647) % 9 = 3 ∨ (x &&& 2147483647) % 9 = 4 ∨ (x &&& 2147483647) % 9 = 5 ∨ (x &&& 2147483647) % 9 = 6 ∨ (x &&& 2147483647) % 9 = 7 ∨ (x &&& 2147483647) % 9 = 8 := by
  have e1 : (x &&& 2147483647).toInt = x.toInt % 2 ^ 31 := Jvm.Kit.i32_mask x 2147483647 (by decide) (by decide)
  have e2 : ((x &&& 2147483647) % 9).toInt = (x &&& 2147483647).toInt % 9 := Jvm.Kit.i32_rem_nonneg (by omega)
  simp only [← Int32.toInt_inj, e2]
  have t0 : (0 : Int32).toInt = 0 := rfl
  have t1 : (1 : Int32).toInt = 1 := rfl
  have t2 : (2 : Int32).toInt = 2 := rfl
  have t3 : (3 : Int32).toInt = 3 := rfl
  have t4 : (4 : Int32).toInt = 4 := rfl
  have t5 : (5 : Int32).toInt = 5 := rfl
  have t6 : (6 : Int32).toInt = 6 := rfl
  have t7 : (7 : Int32).toInt = 7 := rfl
  have t8 : (8 : Int32).toInt = 8 := rfl
  omega
theorem pd_1 : parseMethodDescriptor "(I)Lcom/example/signalbox/signalbox/runtime/Event;" = some ⟨[.int], some (.object "com/example/signalbox/signalbox/runtime/Event")⟩ := by decide +kernel
theorem ef_c_law (m : MethodId) (p0 : Int32) : entryFrame m #[(.int p0)] 4 = mkF m 0 #[.val (.int p0), .unset, .unset, .unset] [] := by first | (simp [entryFrame, mkF, argsToLocals, Value.category]; done) | rfl
set_option maxRecDepth 65536 in
set_option maxHeartbeats 40000000 in
theorem c_law (l : Launch) (Z : State) (a0 : Array Value) (hw : ∀ d ∈ tables_1, d.before a0 Z = true) (p0 : Int32) (a_P a_UNLOCK a_V a_LOCK a_V_BLOCKED a_TRY_P_FAILED a_LOCK_BLOCKED a_P_BLOCKED a_TRY_LOCK_FAILED : Addr) (h0 : Heap) (hK : Known Z h0 a_P a_UNLOCK a_V a_LOCK a_V_BLOCKED a_TRY_P_FAILED a_LOCK_BLOCKED a_P_BLOCKED a_TRY_LOCK_FAILED) :
    Ctr l Z x code maxLocals ret tables_1 room_1 #[(.int p0)] h0 (Law1 h0) := by
  refine Ctr.of (plainFor_of_name pn_1) ?_
  intro p e s m below meth c s₁ hx hby hml hret hown hnm hZ hlk X0 e0
  replace hml : c.maxLocals = 4 := hml
  refine Goes.cast (ef_c_law m p0) ?_
  have hK' := hK
  obtain ⟨S_P, S_UNLOCK, S_V, S_LOCK, S_V_BLOCKED, S_TRY_P_FAILED, S_LOCK_BLOCKED, S_P_BLOCKED, S_TRY_LOCK_FAILED, E_P, E_UNLOCK, E_V, E_LOCK, E_V_BLOCKED, E_TRY_P_FAILED, E_LOCK_BLOCKED, E_P_BLOCKED, E_TRY_LOCK_FAILED, F_UNLOCK_ordinal, F_P_ordinal, F_V_ordinal, F_UNLOCK_neverCompleted, F_LOCK_ordinal, F_LOCK_neverCompleted, F_V_BLOCKED_ordinal, F_V_BLOCKED_neverCompleted, F_V_BLOCKED_begunAs, F_TRY_P_FAILED_ordinal, F_TRY_P_FAILED_neverCompleted, F_LOCK_BLOCKED_ordinal, F_LOCK_BLOCKED_neverCompleted, F_LOCK_BLOCKED_begunAs, F_P_BLOCKED_ordinal, F_P_BLOCKED_neverCompleted, F_P_BLOCKED_begunAs, F_TRY_LOCK_FAILED_ordinal, F_TRY_LOCK_FAILED_neverCompleted, F_P_neverCompleted, F_P_begunAs, F_UNLOCK_begunAs, F_V_neverCompleted, F_V_begunAs, F_LOCK_begunAs, F_TRY_P_FAILED_begunAs, F_TRY_LOCK_FAILED_begunAs⟩ := hK'
  refine gLoadIN X0 hx (hb hby at_0) (pc' := 1) rfl rfl ?_
  refine gLdc X0 hx hZ hown (hw _ (List.mem_of_getElem? (i := 0) rfl)) (hb hby at_1) (pc' := 3) rfl ?_
  refine gIand X0 hx (hb hby at_3) (pc' := 4) rfl ?_
  refine gBipush X0 hx (v := (9 : Int32)) (hb hby at_4) (pc' := 6) rfl rfl ?_
  refine gIrem X0 hx (hb hby at_6) (pc' := 7) (by decide) rfl ?_
  rcases own_rem p0 with hk | hk | hk | hk | hk | hk | hk | hk | hk <;> rw [hk]
  · refine gStoreIN X0 hx (hb hby at_7) (l' := #[.val (.int p0), .val (.int (0 : Int32)), .unset, .unset]) (pc' := 8) rfl rfl ?_
    refine gLoadIN X0 hx (hb hby at_8) (pc' := 9) rfl rfl ?_
    refine gCallSJ X0 hx hZ (y := (⟨"com/example/signalbox/signalbox/runtime/EventTakesCountPinLaw", "pick", "(I)Lcom/example/signalbox/signalbox/runtime/Event;"⟩ : MethodName)) hown e0 (by rw [hml]; rfl) (hw _ (List.mem_of_getElem? (i := 1) rfl)) (hw _ (List.mem_of_getElem? (i := 2) rfl)) (hw _ (List.mem_of_getElem? (i := 3) rfl)) (hw _ (List.mem_of_getElem? (i := 4) rfl)) (by decide) (argsL := [(.int (0 : Int32))]) (st := []) (c_pick_0 l Z a0 hw a_P a_UNLOCK a_V a_LOCK a_V_BLOCKED a_TRY_P_FAILED a_LOCK_BLOCKED a_P_BLOCKED a_TRY_LOCK_FAILED h0 hK) (lenOf pd_1 rfl) (hb hby at_9) (pc' := 12) rfl rfl rfl rfl (by decide) (W := 0) (Nat.le_of_eq rfl) (by decide) (by decide) (by decide) ?_
    intro T1 X1 e1
    refine gStoreAN X1 hx (hb hby at_12) (l' := #[.val (.int p0), .val (.int (0 : Int32)), .val (.ref a_P), .unset]) (pc' := 13) rfl rfl rfl ?_
    refine gLoadIN X1 hx (hb hby at_13) (pc' := 14) rfl rfl ?_
    refine gIfEqT X1 hx (hb hby at_14) (pc' := 34) (by decide) (by decide) (pn := 17) rfl (fun (c14 : (0 : Int) = (0 : Int)) => ?_) (fun (c14 : ¬ (0 : Int) = (0 : Int)) => ?_)
    · refine gIconst X1 hx (v := (1 : Int32)) (hb hby at_34) (pc' := 35) rfl rfl ?_
      refine gGoto X1 hx (hb hby at_35) (pc' := 39) (by decide) (by decide) ?_
      refine gStoreIN X1 hx (hb hby at_39) (l' := #[.val (.int p0), .val (.int (0 : Int32)), .val (.ref a_P), .val (.int (1 : Int32))]) (pc' := 40) rfl rfl ?_
      refine gLoadAN X1 hx (hb hby at_40) (pc' := 41) rfl rfl rfl ?_
      refine gCallVJ X1 hx hZ (y := (⟨"com/example/signalbox/signalbox/runtime/Event", "takesCount", "()Z"⟩ : MethodName)) hown e1 (by rw [hml]; rfl) E_P (hw _ (List.mem_of_getElem? (i := 8) rfl)) (hw _ (List.mem_of_getElem? (i := 9) rfl)) (hw _ (List.mem_of_getElem? (i := 11) rfl)) (hw _ (List.mem_of_getElem? (i := 10) rfl)) (hw _ (List.mem_of_getElem? (i := 6) rfl)) (hw _ (List.mem_of_getElem? (i := 12) rfl)) (by decide) (argsL := []) (st := []) (c_takes_0 l Z a0 hw a_P a_UNLOCK a_V a_LOCK a_V_BLOCKED a_TRY_P_FAILED a_LOCK_BLOCKED a_P_BLOCKED a_TRY_LOCK_FAILED h0 hK) (lenOf pd_0 rfl) (hb hby at_41) (pc' := 44) rfl rfl rfl rfl (by decide) (W := 0) (Nat.le_of_eq rfl) (by decide) (by decide) (by decide) ?_
      intro T2 X2 e2
      refine gLoadIN X2 hx (hb hby at_44) (pc' := 45) rfl rfl ?_
      refine gIcmpNeT X2 hx (hb hby at_45) (pc' := 52) (by decide) (by decide) (pn := 48) rfl (fun (c45 : ¬ (1 : Int) = (1 : Int)) => ?_) (fun (c45 : (1 : Int) = (1 : Int)) => ?_)
      · exact absurd c45 (by decide)
      · refine gIconst X2 hx (v := (1 : Int32)) (hb hby at_48) (pc' := 49) rfl rfl ?_
        refine gGoto X2 hx (hb hby at_49) (pc' := 53) (by decide) (by decide) ?_
        exact gRetN X2 hx hlk hret (by simp) (hb hby at_53) (w := (1 : Int32)) rfl (by decide) (by decide) (⟨rfl, Fr.nil _⟩)
    · exact absurd c14 (by decide)
  · refine gStoreIN X0 hx (hb hby at_7) (l' := #[.val (.int p0), .val (.int (1 : Int32)), .unset, .unset]) (pc' := 8) rfl rfl ?_
    refine gLoadIN X0 hx (hb hby at_8) (pc' := 9) rfl rfl ?_
    refine gCallSJ X0 hx hZ (y := (⟨"com/example/signalbox/signalbox/runtime/EventTakesCountPinLaw", "pick", "(I)Lcom/example/signalbox/signalbox/runtime/Event;"⟩ : MethodName)) hown e0 (by rw [hml]; rfl) (hw _ (List.mem_of_getElem? (i := 1) rfl)) (hw _ (List.mem_of_getElem? (i := 2) rfl)) (hw _ (List.mem_of_getElem? (i := 3) rfl)) (hw _ (List.mem_of_getElem? (i := 4) rfl)) (by decide) (argsL := [(.int (1 : Int32))]) (st := []) (c_pick_1 l Z a0 hw a_P a_UNLOCK a_V a_LOCK a_V_BLOCKED a_TRY_P_FAILED a_LOCK_BLOCKED a_P_BLOCKED a_TRY_LOCK_FAILED h0 hK) (lenOf pd_1 rfl) (hb hby at_9) (pc' := 12) rfl rfl rfl rfl (by decide) (W := 0) (Nat.le_of_eq rfl) (by decide) (by decide) (by decide) ?_
    intro T3 X3 e3
    refine gStoreAN X3 hx (hb hby at_12) (l' := #[.val (.int p0), .val (.int (1 : Int32)), .val (.ref a_V), .unset]) (pc' := 13) rfl rfl rfl ?_
    refine gLoadIN X3 hx (hb hby at_13) (pc' := 14) rfl rfl ?_
    refine gIfEqT X3 hx (hb hby at_14) (pc' := 34) (by decide) (by decide) (pn := 17) rfl (fun (c14 : (1 : Int) = (0 : Int)) => ?_) (fun (c14 : ¬ (1 : Int) = (0 : Int)) => ?_)
    · exact absurd c14 (by decide)
    · refine gLoadIN X3 hx (hb hby at_17) (pc' := 18) rfl rfl ?_
      refine gIconst X3 hx (v := (1 : Int32)) (hb hby at_18) (pc' := 19) rfl rfl ?_
      refine gIcmpEqT X3 hx (hb hby at_19) (pc' := 34) (by decide) (by decide) (pn := 22) rfl (fun (c19 : (1 : Int) = (1 : Int)) => ?_) (fun (c19 : ¬ (1 : Int) = (1 : Int)) => ?_)
      · refine gIconst X3 hx (v := (1 : Int32)) (hb hby at_34) (pc' := 35) rfl rfl ?_
        refine gGoto X3 hx (hb hby at_35) (pc' := 39) (by decide) (by decide) ?_
        refine gStoreIN X3 hx (hb hby at_39) (l' := #[.val (.int p0), .val (.int (1 : Int32)), .val (.ref a_V), .val (.int (1 : Int32))]) (pc' := 40) rfl rfl ?_
        refine gLoadAN X3 hx (hb hby at_40) (pc' := 41) rfl rfl rfl ?_
        refine gCallVJ X3 hx hZ (y := (⟨"com/example/signalbox/signalbox/runtime/Event", "takesCount", "()Z"⟩ : MethodName)) hown e3 (by rw [hml]; rfl) E_V (hw _ (List.mem_of_getElem? (i := 8) rfl)) (hw _ (List.mem_of_getElem? (i := 9) rfl)) (hw _ (List.mem_of_getElem? (i := 11) rfl)) (hw _ (List.mem_of_getElem? (i := 10) rfl)) (hw _ (List.mem_of_getElem? (i := 6) rfl)) (hw _ (List.mem_of_getElem? (i := 12) rfl)) (by decide) (argsL := []) (st := []) (c_takes_1 l Z a0 hw a_P a_UNLOCK a_V a_LOCK a_V_BLOCKED a_TRY_P_FAILED a_LOCK_BLOCKED a_P_BLOCKED a_TRY_LOCK_FAILED h0 hK) (lenOf pd_0 rfl) (hb hby at_41) (pc' := 44) rfl rfl rfl rfl (by decide) (W := 0) (Nat.le_of_eq rfl) (by decide) (by decide) (by decide) ?_
        intro T4 X4 e4
        refine gLoadIN X4 hx (hb hby at_44) (pc' := 45) rfl rfl ?_
        refine gIcmpNeT X4 hx (hb hby at_45) (pc' := 52) (by decide) (by decide) (pn := 48) rfl (fun (c45 : ¬ (1 : Int) = (1 : Int)) => ?_) (fun (c45 : (1 : Int) = (1 : Int)) => ?_)
        · exact absurd c45 (by decide)
        · refine gIconst X4 hx (v := (1 : Int32)) (hb hby at_48) (pc' := 49) rfl rfl ?_
          refine gGoto X4 hx (hb hby at_49) (pc' := 53) (by decide) (by decide) ?_
          exact gRetN X4 hx hlk hret (by simp) (hb hby at_53) (w := (1 : Int32)) rfl (by decide) (by decide) (⟨rfl, Fr.nil _⟩)
      · exact absurd c19 (by decide)
  · refine gStoreIN X0 hx (hb hby at_7) (l' := #[.val (.int p0), .val (.int (2 : Int32)), .unset, .unset]) (pc' := 8) rfl rfl ?_
    refine gLoadIN X0 hx (hb hby at_8) (pc' := 9) rfl rfl ?_
    refine gCallSJ X0 hx hZ (y := (⟨"com/example/signalbox/signalbox/runtime/EventTakesCountPinLaw", "pick", "(I)Lcom/example/signalbox/signalbox/runtime/Event;"⟩ : MethodName)) hown e0 (by rw [hml]; rfl) (hw _ (List.mem_of_getElem? (i := 1) rfl)) (hw _ (List.mem_of_getElem? (i := 2) rfl)) (hw _ (List.mem_of_getElem? (i := 3) rfl)) (hw _ (List.mem_of_getElem? (i := 4) rfl)) (by decide) (argsL := [(.int (2 : Int32))]) (st := []) (c_pick_2 l Z a0 hw a_P a_UNLOCK a_V a_LOCK a_V_BLOCKED a_TRY_P_FAILED a_LOCK_BLOCKED a_P_BLOCKED a_TRY_LOCK_FAILED h0 hK) (lenOf pd_1 rfl) (hb hby at_9) (pc' := 12) rfl rfl rfl rfl (by decide) (W := 0) (Nat.le_of_eq rfl) (by decide) (by decide) (by decide) ?_
    intro T5 X5 e5
    refine gStoreAN X5 hx (hb hby at_12) (l' := #[.val (.int p0), .val (.int (2 : Int32)), .val (.ref a_LOCK), .unset]) (pc' := 13) rfl rfl rfl ?_
    refine gLoadIN X5 hx (hb hby at_13) (pc' := 14) rfl rfl ?_
    refine gIfEqT X5 hx (hb hby at_14) (pc' := 34) (by decide) (by decide) (pn := 17) rfl (fun (c14 : (2 : Int) = (0 : Int)) => ?_) (fun (c14 : ¬ (2 : Int) = (0 : Int)) => ?_)
    · exact absurd c14 (by decide)
    · refine gLoadIN X5 hx (hb hby at_17) (pc' := 18) rfl rfl ?_
      refine gIconst X5 hx (v := (1 : Int32)) (hb hby at_18) (pc' := 19) rfl rfl ?_
      refine gIcmpEqT X5 hx (hb hby at_19) (pc' := 34) (by decide) (by decide) (pn := 22) rfl (fun (c19 : (2 : Int) = (1 : Int)) => ?_) (fun (c19 : ¬ (2 : Int) = (1 : Int)) => ?_)
      · exact absurd c19 (by decide)
      · refine gLoadIN X5 hx (hb hby at_22) (pc' := 23) rfl rfl ?_
        refine gBipush X5 hx (v := (6 : Int32)) (hb hby at_23) (pc' := 25) rfl rfl ?_
        refine gIcmpEqT X5 hx (hb hby at_25) (pc' := 34) (by decide) (by decide) (pn := 28) rfl (fun (c25 : (2 : Int) = (6 : Int)) => ?_) (fun (c25 : ¬ (2 : Int) = (6 : Int)) => ?_)
        · exact absurd c25 (by decide)
        · refine gLoadIN X5 hx (hb hby at_28) (pc' := 29) rfl rfl ?_
          refine gBipush X5 hx (v := (7 : Int32)) (hb hby at_29) (pc' := 31) rfl rfl ?_
          refine gIcmpNeT X5 hx (hb hby at_31) (pc' := 38) (by decide) (by decide) (pn := 34) rfl (fun (c31 : ¬ (2 : Int) = (7 : Int)) => ?_) (fun (c31 : (2 : Int) = (7 : Int)) => ?_)
          · refine gIconst X5 hx (v := (0 : Int32)) (hb hby at_38) (pc' := 39) rfl rfl ?_
            refine gStoreIN X5 hx (hb hby at_39) (l' := #[.val (.int p0), .val (.int (2 : Int32)), .val (.ref a_LOCK), .val (.int (0 : Int32))]) (pc' := 40) rfl rfl ?_
            refine gLoadAN X5 hx (hb hby at_40) (pc' := 41) rfl rfl rfl ?_
            refine gCallVJ X5 hx hZ (y := (⟨"com/example/signalbox/signalbox/runtime/Event", "takesCount", "()Z"⟩ : MethodName)) hown e5 (by rw [hml]; rfl) E_LOCK (hw _ (List.mem_of_getElem? (i := 8) rfl)) (hw _ (List.mem_of_getElem? (i := 9) rfl)) (hw _ (List.mem_of_getElem? (i := 11) rfl)) (hw _ (List.mem_of_getElem? (i := 10) rfl)) (hw _ (List.mem_of_getElem? (i := 6) rfl)) (hw _ (List.mem_of_getElem? (i := 12) rfl)) (by decide) (argsL := []) (st := []) (c_takes_2 l Z a0 hw a_P a_UNLOCK a_V a_LOCK a_V_BLOCKED a_TRY_P_FAILED a_LOCK_BLOCKED a_P_BLOCKED a_TRY_LOCK_FAILED h0 hK) (lenOf pd_0 rfl) (hb hby at_41) (pc' := 44) rfl rfl rfl rfl (by decide) (W := 0) (Nat.le_of_eq rfl) (by decide) (by decide) (by decide) ?_
            intro T6 X6 e6
            refine gLoadIN X6 hx (hb hby at_44) (pc' := 45) rfl rfl ?_
            refine gIcmpNeT X6 hx (hb hby at_45) (pc' := 52) (by decide) (by decide) (pn := 48) rfl (fun (c45 : ¬ (0 : Int) = (0 : Int)) => ?_) (fun (c45 : (0 : Int) = (0 : Int)) => ?_)
            · exact absurd c45 (by decide)
            · refine gIconst X6 hx (v := (1 : Int32)) (hb hby at_48) (pc' := 49) rfl rfl ?_
              refine gGoto X6 hx (hb hby at_49) (pc' := 53) (by decide) (by decide) ?_
              exact gRetN X6 hx hlk hret (by simp) (hb hby at_53) (w := (1 : Int32)) rfl (by decide) (by decide) (⟨rfl, Fr.nil _⟩)
          · exact absurd c31 (by decide)
  · refine gStoreIN X0 hx (hb hby at_7) (l' := #[.val (.int p0), .val (.int (3 : Int32)), .unset, .unset]) (pc' := 8) rfl rfl ?_
    refine gLoadIN X0 hx (hb hby at_8) (pc' := 9) rfl rfl ?_
    refine gCallSJ X0 hx hZ (y := (⟨"com/example/signalbox/signalbox/runtime/EventTakesCountPinLaw", "pick", "(I)Lcom/example/signalbox/signalbox/runtime/Event;"⟩ : MethodName)) hown e0 (by rw [hml]; rfl) (hw _ (List.mem_of_getElem? (i := 1) rfl)) (hw _ (List.mem_of_getElem? (i := 2) rfl)) (hw _ (List.mem_of_getElem? (i := 3) rfl)) (hw _ (List.mem_of_getElem? (i := 4) rfl)) (by decide) (argsL := [(.int (3 : Int32))]) (st := []) (c_pick_3 l Z a0 hw a_P a_UNLOCK a_V a_LOCK a_V_BLOCKED a_TRY_P_FAILED a_LOCK_BLOCKED a_P_BLOCKED a_TRY_LOCK_FAILED h0 hK) (lenOf pd_1 rfl) (hb hby at_9) (pc' := 12) rfl rfl rfl rfl (by decide) (W := 0) (Nat.le_of_eq rfl) (by decide) (by decide) (by decide) ?_
    intro T7 X7 e7
    refine gStoreAN X7 hx (hb hby at_12) (l' := #[.val (.int p0), .val (.int (3 : Int32)), .val (.ref a_UNLOCK), .unset]) (pc' := 13) rfl rfl rfl ?_
    refine gLoadIN X7 hx (hb hby at_13) (pc' := 14) rfl rfl ?_
    refine gIfEqT X7 hx (hb hby at_14) (pc' := 34) (by decide) (by decide) (pn := 17) rfl (fun (c14 : (3 : Int) = (0 : Int)) => ?_) (fun (c14 : ¬ (3 : Int) = (0 : Int)) => ?_)
    · exact absurd c14 (by decide)
    · refine gLoadIN X7 hx (hb hby at_17) (pc' := 18) rfl rfl ?_
      refine gIconst X7 hx (v := (1 : Int32)) (hb hby at_18) (pc' := 19) rfl rfl ?_
      refine gIcmpEqT X7 hx (hb hby at_19) (pc' := 34) (by decide) (by decide) (pn := 22) rfl (fun (c19 : (3 : Int) = (1 : Int)) => ?_) (fun (c19 : ¬ (3 : Int) = (1 : Int)) => ?_)
      · exact absurd c19 (by decide)
      · refine gLoadIN X7 hx (hb hby at_22) (pc' := 23) rfl rfl ?_
        refine gBipush X7 hx (v := (6 : Int32)) (hb hby at_23) (pc' := 25) rfl rfl ?_
        refine gIcmpEqT X7 hx (hb hby at_25) (pc' := 34) (by decide) (by decide) (pn := 28) rfl (fun (c25 : (3 : Int) = (6 : Int)) => ?_) (fun (c25 : ¬ (3 : Int) = (6 : Int)) => ?_)
        · exact absurd c25 (by decide)
        · refine gLoadIN X7 hx (hb hby at_28) (pc' := 29) rfl rfl ?_
          refine gBipush X7 hx (v := (7 : Int32)) (hb hby at_29) (pc' := 31) rfl rfl ?_
          refine gIcmpNeT X7 hx (hb hby at_31) (pc' := 38) (by decide) (by decide) (pn := 34) rfl (fun (c31 : ¬ (3 : Int) = (7 : Int)) => ?_) (fun (c31 : (3 : Int) = (7 : Int)) => ?_)
          · refine gIconst X7 hx (v := (0 : Int32)) (hb hby at_38) (pc' := 39) rfl rfl ?_
            refine gStoreIN X7 hx (hb hby at_39) (l' := #[.val (.int p0), .val (.int (3 : Int32)), .val (.ref a_UNLOCK), .val (.int (0 : Int32))]) (pc' := 40) rfl rfl ?_
            refine gLoadAN X7 hx (hb hby at_40) (pc' := 41) rfl rfl rfl ?_
            refine gCallVJ X7 hx hZ (y := (⟨"com/example/signalbox/signalbox/runtime/Event", "takesCount", "()Z"⟩ : MethodName)) hown e7 (by rw [hml]; rfl) E_UNLOCK (hw _ (List.mem_of_getElem? (i := 8) rfl)) (hw _ (List.mem_of_getElem? (i := 9) rfl)) (hw _ (List.mem_of_getElem? (i := 11) rfl)) (hw _ (List.mem_of_getElem? (i := 10) rfl)) (hw _ (List.mem_of_getElem? (i := 6) rfl)) (hw _ (List.mem_of_getElem? (i := 12) rfl)) (by decide) (argsL := []) (st := []) (c_takes_3 l Z a0 hw a_P a_UNLOCK a_V a_LOCK a_V_BLOCKED a_TRY_P_FAILED a_LOCK_BLOCKED a_P_BLOCKED a_TRY_LOCK_FAILED h0 hK) (lenOf pd_0 rfl) (hb hby at_41) (pc' := 44) rfl rfl rfl rfl (by decide) (W := 0) (Nat.le_of_eq rfl) (by decide) (by decide) (by decide) ?_
            intro T8 X8 e8
            refine gLoadIN X8 hx (hb hby at_44) (pc' := 45) rfl rfl ?_
            refine gIcmpNeT X8 hx (hb hby at_45) (pc' := 52) (by decide) (by decide) (pn := 48) rfl (fun (c45 : ¬ (0 : Int) = (0 : Int)) => ?_) (fun (c45 : (0 : Int) = (0 : Int)) => ?_)
            · exact absurd c45 (by decide)
            · refine gIconst X8 hx (v := (1 : Int32)) (hb hby at_48) (pc' := 49) rfl rfl ?_
              refine gGoto X8 hx (hb hby at_49) (pc' := 53) (by decide) (by decide) ?_
              exact gRetN X8 hx hlk hret (by simp) (hb hby at_53) (w := (1 : Int32)) rfl (by decide) (by decide) (⟨rfl, Fr.nil _⟩)
          · exact absurd c31 (by decide)
  · refine gStoreIN X0 hx (hb hby at_7) (l' := #[.val (.int p0), .val (.int (4 : Int32)), .unset, .unset]) (pc' := 8) rfl rfl ?_
    refine gLoadIN X0 hx (hb hby at_8) (pc' := 9) rfl rfl ?_
    refine gCallSJ X0 hx hZ (y := (⟨"com/example/signalbox/signalbox/runtime/EventTakesCountPinLaw", "pick", "(I)Lcom/example/signalbox/signalbox/runtime/Event;"⟩ : MethodName)) hown e0 (by rw [hml]; rfl) (hw _ (List.mem_of_getElem? (i := 1) rfl)) (hw _ (List.mem_of_getElem? (i := 2) rfl)) (hw _ (List.mem_of_getElem? (i := 3) rfl)) (hw _ (List.mem_of_getElem? (i := 4) rfl)) (by decide) (argsL := [(.int (4 : Int32))]) (st := []) (c_pick_4 l Z a0 hw a_P a_UNLOCK a_V a_LOCK a_V_BLOCKED a_TRY_P_FAILED a_LOCK_BLOCKED a_P_BLOCKED a_TRY_LOCK_FAILED h0 hK) (lenOf pd_1 rfl) (hb hby at_9) (pc' := 12) rfl rfl rfl rfl (by decide) (W := 0) (Nat.le_of_eq rfl) (by decide) (by decide) (by decide) ?_
    intro T9 X9 e9
    refine gStoreAN X9 hx (hb hby at_12) (l' := #[.val (.int p0), .val (.int (4 : Int32)), .val (.ref a_TRY_P_FAILED), .unset]) (pc' := 13) rfl rfl rfl ?_
    refine gLoadIN X9 hx (hb hby at_13) (pc' := 14) rfl rfl ?_
    refine gIfEqT X9 hx (hb hby at_14) (pc' := 34) (by decide) (by decide) (pn := 17) rfl (fun (c14 : (4 : Int) = (0 : Int)) => ?_) (fun (c14 : ¬ (4 : Int) = (0 : Int)) => ?_)
    · exact absurd c14 (by decide)
    · refine gLoadIN X9 hx (hb hby at_17) (pc' := 18) rfl rfl ?_
      refine gIconst X9 hx (v := (1 : Int32)) (hb hby at_18) (pc' := 19) rfl rfl ?_
      refine gIcmpEqT X9 hx (hb hby at_19) (pc' := 34) (by decide) (by decide) (pn := 22) rfl (fun (c19 : (4 : Int) = (1 : Int)) => ?_) (fun (c19 : ¬ (4 : Int) = (1 : Int)) => ?_)
      · exact absurd c19 (by decide)
      · refine gLoadIN X9 hx (hb hby at_22) (pc' := 23) rfl rfl ?_
        refine gBipush X9 hx (v := (6 : Int32)) (hb hby at_23) (pc' := 25) rfl rfl ?_
        refine gIcmpEqT X9 hx (hb hby at_25) (pc' := 34) (by decide) (by decide) (pn := 28) rfl (fun (c25 : (4 : Int) = (6 : Int)) => ?_) (fun (c25 : ¬ (4 : Int) = (6 : Int)) => ?_)
        · exact absurd c25 (by decide)
        · refine gLoadIN X9 hx (hb hby at_28) (pc' := 29) rfl rfl ?_
          refine gBipush X9 hx (v := (7 : Int32)) (hb hby at_29) (pc' := 31) rfl rfl ?_
          refine gIcmpNeT X9 hx (hb hby at_31) (pc' := 38) (by decide) (by decide) (pn := 34) rfl (fun (c31 : ¬ (4 : Int) = (7 : Int)) => ?_) (fun (c31 : (4 : Int) = (7 : Int)) => ?_)
          · refine gIconst X9 hx (v := (0 : Int32)) (hb hby at_38) (pc' := 39) rfl rfl ?_
            refine gStoreIN X9 hx (hb hby at_39) (l' := #[.val (.int p0), .val (.int (4 : Int32)), .val (.ref a_TRY_P_FAILED), .val (.int (0 : Int32))]) (pc' := 40) rfl rfl ?_
            refine gLoadAN X9 hx (hb hby at_40) (pc' := 41) rfl rfl rfl ?_
            refine gCallVJ X9 hx hZ (y := (⟨"com/example/signalbox/signalbox/runtime/Event", "takesCount", "()Z"⟩ : MethodName)) hown e9 (by rw [hml]; rfl) E_TRY_P_FAILED (hw _ (List.mem_of_getElem? (i := 8) rfl)) (hw _ (List.mem_of_getElem? (i := 9) rfl)) (hw _ (List.mem_of_getElem? (i := 11) rfl)) (hw _ (List.mem_of_getElem? (i := 10) rfl)) (hw _ (List.mem_of_getElem? (i := 6) rfl)) (hw _ (List.mem_of_getElem? (i := 12) rfl)) (by decide) (argsL := []) (st := []) (c_takes_4 l Z a0 hw a_P a_UNLOCK a_V a_LOCK a_V_BLOCKED a_TRY_P_FAILED a_LOCK_BLOCKED a_P_BLOCKED a_TRY_LOCK_FAILED h0 hK) (lenOf pd_0 rfl) (hb hby at_41) (pc' := 44) rfl rfl rfl rfl (by decide) (W := 0) (Nat.le_of_eq rfl) (by decide) (by decide) (by decide) ?_
            intro T10 X10 e10
            refine gLoadIN X10 hx (hb hby at_44) (pc' := 45) rfl rfl ?_
            refine gIcmpNeT X10 hx (hb hby at_45) (pc' := 52) (by decide) (by decide) (pn := 48) rfl (fun (c45 : ¬ (0 : Int) = (0 : Int)) => ?_) (fun (c45 : (0 : Int) = (0 : Int)) => ?_)
            · exact absurd c45 (by decide)
            · refine gIconst X10 hx (v := (1 : Int32)) (hb hby at_48) (pc' := 49) rfl rfl ?_
              refine gGoto X10 hx (hb hby at_49) (pc' := 53) (by decide) (by decide) ?_
              exact gRetN X10 hx hlk hret (by simp) (hb hby at_53) (w := (1 : Int32)) rfl (by decide) (by decide) (⟨rfl, Fr.nil _⟩)
          · exact absurd c31 (by decide)
  · refine gStoreIN X0 hx (hb hby at_7) (l' := #[.val (.int p0), .val (.int (5 : Int32)), .unset, .unset]) (pc' := 8) rfl rfl ?_
    refine gLoadIN X0 hx (hb hby at_8) (pc' := 9) rfl rfl ?_
    refine gCallSJ X0 hx hZ (y := (⟨"com/example/signalbox/signalbox/runtime/EventTakesCountPinLaw", "pick", "(I)Lcom/example/signalbox/signalbox/runtime/Event;"⟩ : MethodName)) hown e0 (by rw [hml]; rfl) (hw _ (List.mem_of_getElem? (i := 1) rfl)) (hw _ (List.mem_of_getElem? (i := 2) rfl)) (hw _ (List.mem_of_getElem? (i := 3) rfl)) (hw _ (List.mem_of_getElem? (i := 4) rfl)) (by decide) (argsL := [(.int (5 : Int32))]) (st := []) (c_pick_5 l Z a0 hw a_P a_UNLOCK a_V a_LOCK a_V_BLOCKED a_TRY_P_FAILED a_LOCK_BLOCKED a_P_BLOCKED a_TRY_LOCK_FAILED h0 hK) (lenOf pd_1 rfl) (hb hby at_9) (pc' := 12) rfl rfl rfl rfl (by decide) (W := 0) (Nat.le_of_eq rfl) (by decide) (by decide) (by decide) ?_
    intro T11 X11 e11
    refine gStoreAN X11 hx (hb hby at_12) (l' := #[.val (.int p0), .val (.int (5 : Int32)), .val (.ref a_TRY_LOCK_FAILED), .unset]) (pc' := 13) rfl rfl rfl ?_
    refine gLoadIN X11 hx (hb hby at_13) (pc' := 14) rfl rfl ?_
    refine gIfEqT X11 hx (hb hby at_14) (pc' := 34) (by decide) (by decide) (pn := 17) rfl (fun (c14 : (5 : Int) = (0 : Int)) => ?_) (fun (c14 : ¬ (5 : Int) = (0 : Int)) => ?_)
    · exact absurd c14 (by decide)
    · refine gLoadIN X11 hx (hb hby at_17) (pc' := 18) rfl rfl ?_
      refine gIconst X11 hx (v := (1 : Int32)) (hb hby at_18) (pc' := 19) rfl rfl ?_
      refine gIcmpEqT X11 hx (hb hby at_19) (pc' := 34) (by decide) (by decide) (pn := 22) rfl (fun (c19 : (5 : Int) = (1 : Int)) => ?_) (fun (c19 : ¬ (5 : Int) = (1 : Int)) => ?_)
      · exact absurd c19 (by decide)
      · refine gLoadIN X11 hx (hb hby at_22) (pc' := 23) rfl rfl ?_
        refine gBipush X11 hx (v := (6 : Int32)) (hb hby at_23) (pc' := 25) rfl rfl ?_
        refine gIcmpEqT X11 hx (hb hby at_25) (pc' := 34) (by decide) (by decide) (pn := 28) rfl (fun (c25 : (5 : Int) = (6 : Int)) => ?_) (fun (c25 : ¬ (5 : Int) = (6 : Int)) => ?_)
        · exact absurd c25 (by decide)
        · refine gLoadIN X11 hx (hb hby at_28) (pc' := 29) rfl rfl ?_
          refine gBipush X11 hx (v := (7 : Int32)) (hb hby at_29) (pc' := 31) rfl rfl ?_
          refine gIcmpNeT X11 hx (hb hby at_31) (pc' := 38) (by decide) (by decide) (pn := 34) rfl (fun (c31 : ¬ (5 : Int) = (7 : Int)) => ?_) (fun (c31 : (5 : Int) = (7 : Int)) => ?_)
          · refine gIconst X11 hx (v := (0 : Int32)) (hb hby at_38) (pc' := 39) rfl rfl ?_
            refine gStoreIN X11 hx (hb hby at_39) (l' := #[.val (.int p0), .val (.int (5 : Int32)), .val (.ref a_TRY_LOCK_FAILED), .val (.int (0 : Int32))]) (pc' := 40) rfl rfl ?_
            refine gLoadAN X11 hx (hb hby at_40) (pc' := 41) rfl rfl rfl ?_
            refine gCallVJ X11 hx hZ (y := (⟨"com/example/signalbox/signalbox/runtime/Event", "takesCount", "()Z"⟩ : MethodName)) hown e11 (by rw [hml]; rfl) E_TRY_LOCK_FAILED (hw _ (List.mem_of_getElem? (i := 8) rfl)) (hw _ (List.mem_of_getElem? (i := 9) rfl)) (hw _ (List.mem_of_getElem? (i := 11) rfl)) (hw _ (List.mem_of_getElem? (i := 10) rfl)) (hw _ (List.mem_of_getElem? (i := 6) rfl)) (hw _ (List.mem_of_getElem? (i := 12) rfl)) (by decide) (argsL := []) (st := []) (c_takes_5 l Z a0 hw a_P a_UNLOCK a_V a_LOCK a_V_BLOCKED a_TRY_P_FAILED a_LOCK_BLOCKED a_P_BLOCKED a_TRY_LOCK_FAILED h0 hK) (lenOf pd_0 rfl) (hb hby at_41) (pc' := 44) rfl rfl rfl rfl (by decide) (W := 0) (Nat.le_of_eq rfl) (by decide) (by decide) (by decide) ?_
            intro T12 X12 e12
            refine gLoadIN X12 hx (hb hby at_44) (pc' := 45) rfl rfl ?_
            refine gIcmpNeT X12 hx (hb hby at_45) (pc' := 52) (by decide) (by decide) (pn := 48) rfl (fun (c45 : ¬ (0 : Int) = (0 : Int)) => ?_) (fun (c45 : (0 : Int) = (0 : Int)) => ?_)
            · exact absurd c45 (by decide)
            · refine gIconst X12 hx (v := (1 : Int32)) (hb hby at_48) (pc' := 49) rfl rfl ?_
              refine gGoto X12 hx (hb hby at_49) (pc' := 53) (by decide) (by decide) ?_
              exact gRetN X12 hx hlk hret (by simp) (hb hby at_53) (w := (1 : Int32)) rfl (by decide) (by decide) (⟨rfl, Fr.nil _⟩)
          · exact absurd c31 (by decide)
  · refine gStoreIN X0 hx (hb hby at_7) (l' := #[.val (.int p0), .val (.int (6 : Int32)), .unset, .unset]) (pc' := 8) rfl rfl ?_
    refine gLoadIN X0 hx (hb hby at_8) (pc' := 9) rfl rfl ?_
    refine gCallSJ X0 hx hZ (y := (⟨"com/example/signalbox/signalbox/runtime/EventTakesCountPinLaw", "pick", "(I)Lcom/example/signalbox/signalbox/runtime/Event;"⟩ : MethodName)) hown e0 (by rw [hml]; rfl) (hw _ (List.mem_of_getElem? (i := 1) rfl)) (hw _ (List.mem_of_getElem? (i := 2) rfl)) (hw _ (List.mem_of_getElem? (i := 3) rfl)) (hw _ (List.mem_of_getElem? (i := 4) rfl)) (by decide) (argsL := [(.int (6 : Int32))]) (st := []) (c_pick_6 l Z a0 hw a_P a_UNLOCK a_V a_LOCK a_V_BLOCKED a_TRY_P_FAILED a_LOCK_BLOCKED a_P_BLOCKED a_TRY_LOCK_FAILED h0 hK) (lenOf pd_1 rfl) (hb hby at_9) (pc' := 12) rfl rfl rfl rfl (by decide) (W := 0) (Nat.le_of_eq rfl) (by decide) (by decide) (by decide) ?_
    intro T13 X13 e13
    refine gStoreAN X13 hx (hb hby at_12) (l' := #[.val (.int p0), .val (.int (6 : Int32)), .val (.ref a_P_BLOCKED), .unset]) (pc' := 13) rfl rfl rfl ?_
    refine gLoadIN X13 hx (hb hby at_13) (pc' := 14) rfl rfl ?_
    refine gIfEqT X13 hx (hb hby at_14) (pc' := 34) (by decide) (by decide) (pn := 17) rfl (fun (c14 : (6 : Int) = (0 : Int)) => ?_) (fun (c14 : ¬ (6 : Int) = (0 : Int)) => ?_)
    · exact absurd c14 (by decide)
    · refine gLoadIN X13 hx (hb hby at_17) (pc' := 18) rfl rfl ?_
      refine gIconst X13 hx (v := (1 : Int32)) (hb hby at_18) (pc' := 19) rfl rfl ?_
      refine gIcmpEqT X13 hx (hb hby at_19) (pc' := 34) (by decide) (by decide) (pn := 22) rfl (fun (c19 : (6 : Int) = (1 : Int)) => ?_) (fun (c19 : ¬ (6 : Int) = (1 : Int)) => ?_)
      · exact absurd c19 (by decide)
      · refine gLoadIN X13 hx (hb hby at_22) (pc' := 23) rfl rfl ?_
        refine gBipush X13 hx (v := (6 : Int32)) (hb hby at_23) (pc' := 25) rfl rfl ?_
        refine gIcmpEqT X13 hx (hb hby at_25) (pc' := 34) (by decide) (by decide) (pn := 28) rfl (fun (c25 : (6 : Int) = (6 : Int)) => ?_) (fun (c25 : ¬ (6 : Int) = (6 : Int)) => ?_)
        · refine gIconst X13 hx (v := (1 : Int32)) (hb hby at_34) (pc' := 35) rfl rfl ?_
          refine gGoto X13 hx (hb hby at_35) (pc' := 39) (by decide) (by decide) ?_
          refine gStoreIN X13 hx (hb hby at_39) (l' := #[.val (.int p0), .val (.int (6 : Int32)), .val (.ref a_P_BLOCKED), .val (.int (1 : Int32))]) (pc' := 40) rfl rfl ?_
          refine gLoadAN X13 hx (hb hby at_40) (pc' := 41) rfl rfl rfl ?_
          refine gCallVJ X13 hx hZ (y := (⟨"com/example/signalbox/signalbox/runtime/Event", "takesCount", "()Z"⟩ : MethodName)) hown e13 (by rw [hml]; rfl) E_P_BLOCKED (hw _ (List.mem_of_getElem? (i := 8) rfl)) (hw _ (List.mem_of_getElem? (i := 9) rfl)) (hw _ (List.mem_of_getElem? (i := 11) rfl)) (hw _ (List.mem_of_getElem? (i := 10) rfl)) (hw _ (List.mem_of_getElem? (i := 6) rfl)) (hw _ (List.mem_of_getElem? (i := 12) rfl)) (by decide) (argsL := []) (st := []) (c_takes_6 l Z a0 hw a_P a_UNLOCK a_V a_LOCK a_V_BLOCKED a_TRY_P_FAILED a_LOCK_BLOCKED a_P_BLOCKED a_TRY_LOCK_FAILED h0 hK) (lenOf pd_0 rfl) (hb hby at_41) (pc' := 44) rfl rfl rfl rfl (by decide) (W := 0) (Nat.le_of_eq rfl) (by decide) (by decide) (by decide) ?_
          intro T14 X14 e14
          refine gLoadIN X14 hx (hb hby at_44) (pc' := 45) rfl rfl ?_
          refine gIcmpNeT X14 hx (hb hby at_45) (pc' := 52) (by decide) (by decide) (pn := 48) rfl (fun (c45 : ¬ (1 : Int) = (1 : Int)) => ?_) (fun (c45 : (1 : Int) = (1 : Int)) => ?_)
          · exact absurd c45 (by decide)
          · refine gIconst X14 hx (v := (1 : Int32)) (hb hby at_48) (pc' := 49) rfl rfl ?_
            refine gGoto X14 hx (hb hby at_49) (pc' := 53) (by decide) (by decide) ?_
            exact gRetN X14 hx hlk hret (by simp) (hb hby at_53) (w := (1 : Int32)) rfl (by decide) (by decide) (⟨rfl, Fr.nil _⟩)
        · exact absurd c25 (by decide)
  · refine gStoreIN X0 hx (hb hby at_7) (l' := #[.val (.int p0), .val (.int (7 : Int32)), .unset, .unset]) (pc' := 8) rfl rfl ?_
    refine gLoadIN X0 hx (hb hby at_8) (pc' := 9) rfl rfl ?_
    refine gCallSJ X0 hx hZ (y := (⟨"com/example/signalbox/signalbox/runtime/EventTakesCountPinLaw", "pick", "(I)Lcom/example/signalbox/signalbox/runtime/Event;"⟩ : MethodName)) hown e0 (by rw [hml]; rfl) (hw _ (List.mem_of_getElem? (i := 1) rfl)) (hw _ (List.mem_of_getElem? (i := 2) rfl)) (hw _ (List.mem_of_getElem? (i := 3) rfl)) (hw _ (List.mem_of_getElem? (i := 4) rfl)) (by decide) (argsL := [(.int (7 : Int32))]) (st := []) (c_pick_7 l Z a0 hw a_P a_UNLOCK a_V a_LOCK a_V_BLOCKED a_TRY_P_FAILED a_LOCK_BLOCKED a_P_BLOCKED a_TRY_LOCK_FAILED h0 hK) (lenOf pd_1 rfl) (hb hby at_9) (pc' := 12) rfl rfl rfl rfl (by decide) (W := 0) (Nat.le_of_eq rfl) (by decide) (by decide) (by decide) ?_
    intro T15 X15 e15
    refine gStoreAN X15 hx (hb hby at_12) (l' := #[.val (.int p0), .val (.int (7 : Int32)), .val (.ref a_V_BLOCKED), .unset]) (pc' := 13) rfl rfl rfl ?_
    refine gLoadIN X15 hx (hb hby at_13) (pc' := 14) rfl rfl ?_
    refine gIfEqT X15 hx (hb hby at_14) (pc' := 34) (by decide) (by decide) (pn := 17) rfl (fun (c14 : (7 : Int) = (0 : Int)) => ?_) (fun (c14 : ¬ (7 : Int) = (0 : Int)) => ?_)
    · exact absurd c14 (by decide)
    · refine gLoadIN X15 hx (hb hby at_17) (pc' := 18) rfl rfl ?_
      refine gIconst X15 hx (v := (1 : Int32)) (hb hby at_18) (pc' := 19) rfl rfl ?_
      refine gIcmpEqT X15 hx (hb hby at_19) (pc' := 34) (by decide) (by decide) (pn := 22) rfl (fun (c19 : (7 : Int) = (1 : Int)) => ?_) (fun (c19 : ¬ (7 : Int) = (1 : Int)) => ?_)
      · exact absurd c19 (by decide)
      · refine gLoadIN X15 hx (hb hby at_22) (pc' := 23) rfl rfl ?_
        refine gBipush X15 hx (v := (6 : Int32)) (hb hby at_23) (pc' := 25) rfl rfl ?_
        refine gIcmpEqT X15 hx (hb hby at_25) (pc' := 34) (by decide) (by decide) (pn := 28) rfl (fun (c25 : (7 : Int) = (6 : Int)) => ?_) (fun (c25 : ¬ (7 : Int) = (6 : Int)) => ?_)
        · exact absurd c25 (by decide)
        · refine gLoadIN X15 hx (hb hby at_28) (pc' := 29) rfl rfl ?_
          refine gBipush X15 hx (v := (7 : Int32)) (hb hby at_29) (pc' := 31) rfl rfl ?_
          refine gIcmpNeT X15 hx (hb hby at_31) (pc' := 38) (by decide) (by decide) (pn := 34) rfl (fun (c31 : ¬ (7 : Int) = (7 : Int)) => ?_) (fun (c31 : (7 : Int) = (7 : Int)) => ?_)
          · exact absurd c31 (by decide)
          · refine gIconst X15 hx (v := (1 : Int32)) (hb hby at_34) (pc' := 35) rfl rfl ?_
            refine gGoto X15 hx (hb hby at_35) (pc' := 39) (by decide) (by decide) ?_
            refine gStoreIN X15 hx (hb hby at_39) (l' := #[.val (.int p0), .val (.int (7 : Int32)), .val (.ref a_V_BLOCKED), .val (.int (1 : Int32))]) (pc' := 40) rfl rfl ?_
            refine gLoadAN X15 hx (hb hby at_40) (pc' := 41) rfl rfl rfl ?_
            refine gCallVJ X15 hx hZ (y := (⟨"com/example/signalbox/signalbox/runtime/Event", "takesCount", "()Z"⟩ : MethodName)) hown e15 (by rw [hml]; rfl) E_V_BLOCKED (hw _ (List.mem_of_getElem? (i := 8) rfl)) (hw _ (List.mem_of_getElem? (i := 9) rfl)) (hw _ (List.mem_of_getElem? (i := 11) rfl)) (hw _ (List.mem_of_getElem? (i := 10) rfl)) (hw _ (List.mem_of_getElem? (i := 6) rfl)) (hw _ (List.mem_of_getElem? (i := 12) rfl)) (by decide) (argsL := []) (st := []) (c_takes_7 l Z a0 hw a_P a_UNLOCK a_V a_LOCK a_V_BLOCKED a_TRY_P_FAILED a_LOCK_BLOCKED a_P_BLOCKED a_TRY_LOCK_FAILED h0 hK) (lenOf pd_0 rfl) (hb hby at_41) (pc' := 44) rfl rfl rfl rfl (by decide) (W := 0) (Nat.le_of_eq rfl) (by decide) (by decide) (by decide) ?_
            intro T16 X16 e16
            refine gLoadIN X16 hx (hb hby at_44) (pc' := 45) rfl rfl ?_
            refine gIcmpNeT X16 hx (hb hby at_45) (pc' := 52) (by decide) (by decide) (pn := 48) rfl (fun (c45 : ¬ (1 : Int) = (1 : Int)) => ?_) (fun (c45 : (1 : Int) = (1 : Int)) => ?_)
            · exact absurd c45 (by decide)
            · refine gIconst X16 hx (v := (1 : Int32)) (hb hby at_48) (pc' := 49) rfl rfl ?_
              refine gGoto X16 hx (hb hby at_49) (pc' := 53) (by decide) (by decide) ?_
              exact gRetN X16 hx hlk hret (by simp) (hb hby at_53) (w := (1 : Int32)) rfl (by decide) (by decide) (⟨rfl, Fr.nil _⟩)
  · refine gStoreIN X0 hx (hb hby at_7) (l' := #[.val (.int p0), .val (.int (8 : Int32)), .unset, .unset]) (pc' := 8) rfl rfl ?_
    refine gLoadIN X0 hx (hb hby at_8) (pc' := 9) rfl rfl ?_
    refine gCallSJ X0 hx hZ (y := (⟨"com/example/signalbox/signalbox/runtime/EventTakesCountPinLaw", "pick", "(I)Lcom/example/signalbox/signalbox/runtime/Event;"⟩ : MethodName)) hown e0 (by rw [hml]; rfl) (hw _ (List.mem_of_getElem? (i := 1) rfl)) (hw _ (List.mem_of_getElem? (i := 2) rfl)) (hw _ (List.mem_of_getElem? (i := 3) rfl)) (hw _ (List.mem_of_getElem? (i := 4) rfl)) (by decide) (argsL := [(.int (8 : Int32))]) (st := []) (c_pick_8 l Z a0 hw a_P a_UNLOCK a_V a_LOCK a_V_BLOCKED a_TRY_P_FAILED a_LOCK_BLOCKED a_P_BLOCKED a_TRY_LOCK_FAILED h0 hK) (lenOf pd_1 rfl) (hb hby at_9) (pc' := 12) rfl rfl rfl rfl (by decide) (W := 0) (Nat.le_of_eq rfl) (by decide) (by decide) (by decide) ?_
    intro T17 X17 e17
    refine gStoreAN X17 hx (hb hby at_12) (l' := #[.val (.int p0), .val (.int (8 : Int32)), .val (.ref a_LOCK_BLOCKED), .unset]) (pc' := 13) rfl rfl rfl ?_
    refine gLoadIN X17 hx (hb hby at_13) (pc' := 14) rfl rfl ?_
    refine gIfEqT X17 hx (hb hby at_14) (pc' := 34) (by decide) (by decide) (pn := 17) rfl (fun (c14 : (8 : Int) = (0 : Int)) => ?_) (fun (c14 : ¬ (8 : Int) = (0 : Int)) => ?_)
    · exact absurd c14 (by decide)
    · refine gLoadIN X17 hx (hb hby at_17) (pc' := 18) rfl rfl ?_
      refine gIconst X17 hx (v := (1 : Int32)) (hb hby at_18) (pc' := 19) rfl rfl ?_
      refine gIcmpEqT X17 hx (hb hby at_19) (pc' := 34) (by decide) (by decide) (pn := 22) rfl (fun (c19 : (8 : Int) = (1 : Int)) => ?_) (fun (c19 : ¬ (8 : Int) = (1 : Int)) => ?_)
      · exact absurd c19 (by decide)
      · refine gLoadIN X17 hx (hb hby at_22) (pc' := 23) rfl rfl ?_
        refine gBipush X17 hx (v := (6 : Int32)) (hb hby at_23) (pc' := 25) rfl rfl ?_
        refine gIcmpEqT X17 hx (hb hby at_25) (pc' := 34) (by decide) (by decide) (pn := 28) rfl (fun (c25 : (8 : Int) = (6 : Int)) => ?_) (fun (c25 : ¬ (8 : Int) = (6 : Int)) => ?_)
        · exact absurd c25 (by decide)
        · refine gLoadIN X17 hx (hb hby at_28) (pc' := 29) rfl rfl ?_
          refine gBipush X17 hx (v := (7 : Int32)) (hb hby at_29) (pc' := 31) rfl rfl ?_
          refine gIcmpNeT X17 hx (hb hby at_31) (pc' := 38) (by decide) (by decide) (pn := 34) rfl (fun (c31 : ¬ (8 : Int) = (7 : Int)) => ?_) (fun (c31 : (8 : Int) = (7 : Int)) => ?_)
          · refine gIconst X17 hx (v := (0 : Int32)) (hb hby at_38) (pc' := 39) rfl rfl ?_
            refine gStoreIN X17 hx (hb hby at_39) (l' := #[.val (.int p0), .val (.int (8 : Int32)), .val (.ref a_LOCK_BLOCKED), .val (.int (0 : Int32))]) (pc' := 40) rfl rfl ?_
            refine gLoadAN X17 hx (hb hby at_40) (pc' := 41) rfl rfl rfl ?_
            refine gCallVJ X17 hx hZ (y := (⟨"com/example/signalbox/signalbox/runtime/Event", "takesCount", "()Z"⟩ : MethodName)) hown e17 (by rw [hml]; rfl) E_LOCK_BLOCKED (hw _ (List.mem_of_getElem? (i := 8) rfl)) (hw _ (List.mem_of_getElem? (i := 9) rfl)) (hw _ (List.mem_of_getElem? (i := 11) rfl)) (hw _ (List.mem_of_getElem? (i := 10) rfl)) (hw _ (List.mem_of_getElem? (i := 6) rfl)) (hw _ (List.mem_of_getElem? (i := 12) rfl)) (by decide) (argsL := []) (st := []) (c_takes_8 l Z a0 hw a_P a_UNLOCK a_V a_LOCK a_V_BLOCKED a_TRY_P_FAILED a_LOCK_BLOCKED a_P_BLOCKED a_TRY_LOCK_FAILED h0 hK) (lenOf pd_0 rfl) (hb hby at_41) (pc' := 44) rfl rfl rfl rfl (by decide) (W := 0) (Nat.le_of_eq rfl) (by decide) (by decide) (by decide) ?_
            intro T18 X18 e18
            refine gLoadIN X18 hx (hb hby at_44) (pc' := 45) rfl rfl ?_
            refine gIcmpNeT X18 hx (hb hby at_45) (pc' := 52) (by decide) (by decide) (pn := 48) rfl (fun (c45 : ¬ (0 : Int) = (0 : Int)) => ?_) (fun (c45 : (0 : Int) = (0 : Int)) => ?_)
            · exact absurd c45 (by decide)
            · refine gIconst X18 hx (v := (1 : Int32)) (hb hby at_48) (pc' := 49) rfl rfl ?_
              refine gGoto X18 hx (hb hby at_49) (pc' := 53) (by decide) (by decide) ?_
              exact gRetN X18 hx hlk hret (by simp) (hb hby at_53) (w := (1 : Int32)) rfl (by decide) (by decide) (⟨rfl, Fr.nil _⟩)
          · exact absurd c31 (by decide)
set_option maxRecDepth 65536 in
set_option maxHeartbeats 40000000 in
theorem comes_1 {Post : Tables → Env → Array Value → State → Outcome → State → Prop} (hpost : ∀ tb e args s v u, (limb_1_1.after args s (.returned v) u = true ∧ limb_1_2.after args s (.returned v) u = true ∧ True) → FrameEnd s (.returned v) u (Jvm.fieldLocs frame_1_writes args s ++ Jvm.arrayLocs frame_1_arrays args s ++ Jvm.staticLocs frame_1_statics s) 0 0 → Post tb e args s (.returned v) u) :
    ArmFor flags0 classFile x code maxLocals ret World_1 tables_1 room_1 Calls_1 rest_1 Pre_1 Post := by
  intro l hfl _ _ p e ha hc hk s m args below hf hA hF happ hP
  obtain ⟨hcalls, hrest, hpre⟩ := hP
  obtain ⟨-, -, -, hnamed, -, -, -, hat⟩ := (Spec.applies_iff hf).mp happ
  obtain ⟨hg, hn⟩ := and_e (Cond.before_iff.mp (show (Jvm.Cond.and given_1 narrow_1).before args s = true from hpre))
  obtain ⟨hcount, hv⟩ := and_e hg
  obtain ⟨w0, rfl⟩ : ∃ w0 : Value, args = #[w0] := by
    have hs : args.size = 1 := by simpa [Cond.value, given_1] using hcount
    obtain ⟨L⟩ := args
    match L, hs with
    | [w0], _ => exact ⟨w0, rfl⟩
  have hw := fun d (hd : d ∈ tables_1) => atoms_spec (ws := Jvm.Cond.code x code maxLocals ret :: tables_1) hat d (List.mem_cons_of_mem _ hd)
  have hfit : Fit s := fun {y c} hc i hi => by
    obtain ⟨ha, rfl⟩ := Array.getElem?_eq_some_iff.mp hc
    have q := List.all_eq_true.mp ((Array.all_eq_true_iff_forall_mem.mp hF) _ (Array.getElem_mem ha)) i (List.mem_range.mpr hi)
    simpa [Array.getElem?_eq_getElem hi] using q
  obtain ⟨i0, ei0⟩ := is_v hv
  obtain rfl : w0 = (.int i0) := Option.some.inj ei0
  obtain ⟨n0, m0⟩ := and_e hn
  obtain ⟨n1, m1⟩ := and_e m0
  obtain ⟨n2, m2⟩ := and_e m1
  obtain ⟨n3, m3⟩ := and_e m2
  obtain ⟨n4, m4⟩ := and_e m3
  obtain ⟨n5, m5⟩ := and_e m4
  obtain ⟨n6, m6⟩ := and_e m5
  obtain ⟨n7, m7⟩ := and_e m6
  obtain ⟨n8, m8⟩ := and_e m7
  obtain ⟨n9, m9⟩ := and_e m8
  obtain ⟨n10, m10⟩ := and_e m9
  obtain ⟨n11, m11⟩ := and_e m10
  obtain ⟨n12, m12⟩ := and_e m11
  obtain ⟨n13, m13⟩ := and_e m12
  obtain ⟨n14, m14⟩ := and_e m13
  obtain ⟨n15, m15⟩ := and_e m14
  obtain ⟨n16, m16⟩ := and_e m15
  obtain ⟨n17, m17⟩ := and_e m16
  obtain ⟨n18, m18⟩ := and_e m17
  obtain ⟨n19, m19⟩ := and_e m18
  obtain ⟨n20, m20⟩ := and_e m19
  obtain ⟨n21, m21⟩ := and_e m20
  obtain ⟨n22, m22⟩ := and_e m21
  obtain ⟨n23, m23⟩ := and_e m22
  obtain ⟨n24, m24⟩ := and_e m23
  obtain ⟨n25, m25⟩ := and_e m24
  obtain ⟨n26, m26⟩ := and_e m25
  obtain ⟨n27, m27⟩ := and_e m26
  obtain ⟨n28, m28⟩ := and_e m27
  obtain ⟨n29, m29⟩ := and_e m28
  obtain ⟨n30, m30⟩ := and_e m29
  obtain ⟨n31, m31⟩ := and_e m30
  obtain ⟨n32, m32⟩ := and_e m31
  obtain ⟨n33, m33⟩ := and_e m32
  obtain ⟨n34, m34⟩ := and_e m33
  have n35 := m34
  obtain ⟨a_P, ev_P⟩ := exa_v n0
  have S_P : Sta s s.heap "com/example/signalbox/signalbox/runtime/Event" "P" "Lcom/example/signalbox/signalbox/runtime/Event;" (.ref a_P) := Sta.start ev_P (Or.inr ⟨(hw _ (List.mem_of_getElem? (i := 6) rfl)), (hw _ (List.mem_of_getElem? (i := 7) rfl))⟩)
  have E_P : Exa s s.heap a_P "com/example/signalbox/signalbox/runtime/Event" := Exa.start ev_P n0
  obtain ⟨a_UNLOCK, ev_UNLOCK⟩ := exa_v n1
  have S_UNLOCK : Sta s s.heap "com/example/signalbox/signalbox/runtime/Event" "UNLOCK" "Lcom/example/signalbox/signalbox/runtime/Event;" (.ref a_UNLOCK) := Sta.start ev_UNLOCK (Or.inr ⟨(hw _ (List.mem_of_getElem? (i := 6) rfl)), (hw _ (List.mem_of_getElem? (i := 15) rfl))⟩)
  have E_UNLOCK : Exa s s.heap a_UNLOCK "com/example/signalbox/signalbox/runtime/Event" := Exa.start ev_UNLOCK n1
  obtain ⟨a_V, ev_V⟩ := exa_v n4
  have S_V : Sta s s.heap "com/example/signalbox/signalbox/runtime/Event" "V" "Lcom/example/signalbox/signalbox/runtime/Event;" (.ref a_V) := Sta.start ev_V (Or.inr ⟨(hw _ (List.mem_of_getElem? (i := 6) rfl)), (hw _ (List.mem_of_getElem? (i := 17) rfl))⟩)
  have E_V : Exa s s.heap a_V "com/example/signalbox/signalbox/runtime/Event" := Exa.start ev_V n4
  obtain ⟨a_LOCK, ev_LOCK⟩ := exa_v n7
  have S_LOCK : Sta s s.heap "com/example/signalbox/signalbox/runtime/Event" "LOCK" "Lcom/example/signalbox/signalbox/runtime/Event;" (.ref a_LOCK) := Sta.start ev_LOCK (Or.inr ⟨(hw _ (List.mem_of_getElem? (i := 6) rfl)), (hw _ (List.mem_of_getElem? (i := 21) rfl))⟩)
  have E_LOCK : Exa s s.heap a_LOCK "com/example/signalbox/signalbox/runtime/Event" := Exa.start ev_LOCK n7
  obtain ⟨a_V_BLOCKED, ev_V_BLOCKED⟩ := exa_v n10
  have S_V_BLOCKED : Sta s s.heap "com/example/signalbox/signalbox/runtime/Event" "V_BLOCKED" "Lcom/example/signalbox/signalbox/runtime/Event;" (.ref a_V_BLOCKED) := Sta.start ev_V_BLOCKED (Or.inr ⟨(hw _ (List.mem_of_getElem? (i := 6) rfl)), (hw _ (List.mem_of_getElem? (i := 24) rfl))⟩)
  have E_V_BLOCKED : Exa s s.heap a_V_BLOCKED "com/example/signalbox/signalbox/runtime/Event" := Exa.start ev_V_BLOCKED n10
  obtain ⟨a_TRY_P_FAILED, ev_TRY_P_FAILED⟩ := exa_v n14
  have S_TRY_P_FAILED : Sta s s.heap "com/example/signalbox/signalbox/runtime/Event" "TRY_P_FAILED" "Lcom/example/signalbox/signalbox/runtime/Event;" (.ref a_TRY_P_FAILED) := Sta.start ev_TRY_P_FAILED (Or.inr ⟨(hw _ (List.mem_of_getElem? (i := 6) rfl)), (hw _ (List.mem_of_getElem? (i := 29) rfl))⟩)
  have E_TRY_P_FAILED : Exa s s.heap a_TRY_P_FAILED "com/example/signalbox/signalbox/runtime/Event" := Exa.start ev_TRY_P_FAILED n14
  obtain ⟨a_LOCK_BLOCKED, ev_LOCK_BLOCKED⟩ := exa_v n17
  have S_LOCK_BLOCKED : Sta s s.heap "com/example/signalbox/signalbox/runtime/Event" "LOCK_BLOCKED" "Lcom/example/signalbox/signalbox/runtime/Event;" (.ref a_LOCK_BLOCKED) := Sta.start ev_LOCK_BLOCKED (Or.inr ⟨(hw _ (List.mem_of_getElem? (i := 6) rfl)), (hw _ (List.mem_of_getElem? (i := 31) rfl))⟩)
  have E_LOCK_BLOCKED : Exa s s.heap a_LOCK_BLOCKED "com/example/signalbox/signalbox/runtime/Event" := Exa.start ev_LOCK_BLOCKED n17
  obtain ⟨a_P_BLOCKED, ev_P_BLOCKED⟩ := exa_v n21
  have S_P_BLOCKED : Sta s s.heap "com/example/signalbox/signalbox/runtime/Event" "P_BLOCKED" "Lcom/example/signalbox/signalbox/runtime/Event;" (.ref a_P_BLOCKED) := Sta.start ev_P_BLOCKED (Or.inr ⟨(hw _ (List.mem_of_getElem? (i := 6) rfl)), (hw _ (List.mem_of_getElem? (i := 33) rfl))⟩)
  have E_P_BLOCKED : Exa s s.heap a_P_BLOCKED "com/example/signalbox/signalbox/runtime/Event" := Exa.start ev_P_BLOCKED n21
  obtain ⟨a_TRY_LOCK_FAILED, ev_TRY_LOCK_FAILED⟩ := exa_v n25
  have S_TRY_LOCK_FAILED : Sta s s.heap "com/example/signalbox/signalbox/runtime/Event" "TRY_LOCK_FAILED" "Lcom/example/signalbox/signalbox/runtime/Event;" (.ref a_TRY_LOCK_FAILED) := Sta.start ev_TRY_LOCK_FAILED (Or.inr ⟨(hw _ (List.mem_of_getElem? (i := 6) rfl)), (hw _ (List.mem_of_getElem? (i := 35) rfl))⟩)
  have E_TRY_LOCK_FAILED : Exa s s.heap a_TRY_LOCK_FAILED "com/example/signalbox/signalbox/runtime/Event" := Exa.start ev_TRY_LOCK_FAILED n25
  have F_UNLOCK_ordinal : Fld s s.heap a_UNLOCK "java/lang/Enum" "ordinal" "I" (.int (3 : Int32)) := Fld.start (own_fv ev_UNLOCK n2 rfl)
  have F_P_ordinal : Fld s s.heap a_P "java/lang/Enum" "ordinal" "I" (.int (0 : Int32)) := Fld.start (own_fv ev_P n3 rfl)
  have F_V_ordinal : Fld s s.heap a_V "java/lang/Enum" "ordinal" "I" (.int (1 : Int32)) := Fld.start (own_fv ev_V n5 rfl)
  have F_UNLOCK_neverCompleted : Fld s s.heap a_UNLOCK "com/example/signalbox/signalbox/runtime/Event" "neverCompleted" "Z" (.int (0 : Int32)) := Fld.start (own_fv ev_UNLOCK n6 rfl)
  have F_LOCK_ordinal : Fld s s.heap a_LOCK "java/lang/Enum" "ordinal" "I" (.int (2 : Int32)) := Fld.start (own_fv ev_LOCK n8 rfl)
  have F_LOCK_neverCompleted : Fld s s.heap a_LOCK "com/example/signalbox/signalbox/runtime/Event" "neverCompleted" "Z" (.int (0 : Int32)) := Fld.start (own_fv ev_LOCK n9 rfl)
  have F_V_BLOCKED_ordinal : Fld s s.heap a_V_BLOCKED "java/lang/Enum" "ordinal" "I" (.int (7 : Int32)) := Fld.start (own_fv ev_V_BLOCKED n11 rfl)
  have F_V_BLOCKED_neverCompleted : Fld s s.heap a_V_BLOCKED "com/example/signalbox/signalbox/runtime/Event" "neverCompleted" "Z" (.int (1 : Int32)) := Fld.start (own_fv ev_V_BLOCKED n12 rfl)
  have F_V_BLOCKED_begunAs : Fld s s.heap a_V_BLOCKED "com/example/signalbox/signalbox/runtime/Event" "begunAs" "Lcom/example/signalbox/signalbox/runtime/Event;" (.ref a_V) := Fld.start (own_fv ev_V_BLOCKED n13 ev_V)
  have F_TRY_P_FAILED_ordinal : Fld s s.heap a_TRY_P_FAILED "java/lang/Enum" "ordinal" "I" (.int (4 : Int32)) := Fld.start (own_fv ev_TRY_P_FAILED n15 rfl)
  have F_TRY_P_FAILED_neverCompleted : Fld s s.heap a_TRY_P_FAILED "com/example/signalbox/signalbox/runtime/Event" "neverCompleted" "Z" (.int (0 : Int32)) := Fld.start (own_fv ev_TRY_P_FAILED n16 rfl)
  have F_LOCK_BLOCKED_ordinal : Fld s s.heap a_LOCK_BLOCKED "java/lang/Enum" "ordinal" "I" (.int (8 : Int32)) := Fld.start (own_fv ev_LOCK_BLOCKED n18 rfl)
  have F_LOCK_BLOCKED_neverCompleted : Fld s s.heap a_LOCK_BLOCKED "com/example/signalbox/signalbox/runtime/Event" "neverCompleted" "Z" (.int (1 : Int32)) := Fld.start (own_fv ev_LOCK_BLOCKED n19 rfl)
  have F_LOCK_BLOCKED_begunAs : Fld s s.heap a_LOCK_BLOCKED "com/example/signalbox/signalbox/runtime/Event" "begunAs" "Lcom/example/signalbox/signalbox/runtime/Event;" (.ref a_LOCK) := Fld.start (own_fv ev_LOCK_BLOCKED n20 ev_LOCK)
  have F_P_BLOCKED_ordinal : Fld s s.heap a_P_BLOCKED "java/lang/Enum" "ordinal" "I" (.int (6 : Int32)) := Fld.start (own_fv ev_P_BLOCKED n22 rfl)
  have F_P_BLOCKED_neverCompleted : Fld s s.heap a_P_BLOCKED "com/example/signalbox/signalbox/runtime/Event" "neverCompleted" "Z" (.int (1 : Int32)) := Fld.start (own_fv ev_P_BLOCKED n23 rfl)
  have F_P_BLOCKED_begunAs : Fld s s.heap a_P_BLOCKED "com/example/signalbox/signalbox/runtime/Event" "begunAs" "Lcom/example/signalbox/signalbox/runtime/Event;" (.ref a_P) := Fld.start (own_fv ev_P_BLOCKED n24 ev_P)
  have F_TRY_LOCK_FAILED_ordinal : Fld s s.heap a_TRY_LOCK_FAILED "java/lang/Enum" "ordinal" "I" (.int (5 : Int32)) := Fld.start (own_fv ev_TRY_LOCK_FAILED n26 rfl)
  have F_TRY_LOCK_FAILED_neverCompleted : Fld s s.heap a_TRY_LOCK_FAILED "com/example/signalbox/signalbox/runtime/Event" "neverCompleted" "Z" (.int (0 : Int32)) := Fld.start (own_fv ev_TRY_LOCK_FAILED n27 rfl)
  have F_P_neverCompleted : Fld s s.heap a_P "com/example/signalbox/signalbox/runtime/Event" "neverCompleted" "Z" (.int (0 : Int32)) := Fld.start (own_fv ev_P n28 rfl)
  have F_P_begunAs : Fld s s.heap a_P "com/example/signalbox/signalbox/runtime/Event" "begunAs" "Lcom/example/signalbox/signalbox/runtime/Event;" .null := Fld.start (own_fv ev_P n29 rfl)
  have F_UNLOCK_begunAs : Fld s s.heap a_UNLOCK "com/example/signalbox/signalbox/runtime/Event" "begunAs" "Lcom/example/signalbox/signalbox/runtime/Event;" .null := Fld.start (own_fv ev_UNLOCK n30 rfl)
  have F_V_neverCompleted : Fld s s.heap a_V "com/example/signalbox/signalbox/runtime/Event" "neverCompleted" "Z" (.int (0 : Int32)) := Fld.start (own_fv ev_V n31 rfl)
  have F_V_begunAs : Fld s s.heap a_V "com/example/signalbox/signalbox/runtime/Event" "begunAs" "Lcom/example/signalbox/signalbox/runtime/Event;" .null := Fld.start (own_fv ev_V n32 rfl)
  have F_LOCK_begunAs : Fld s s.heap a_LOCK "com/example/signalbox/signalbox/runtime/Event" "begunAs" "Lcom/example/signalbox/signalbox/runtime/Event;" .null := Fld.start (own_fv ev_LOCK n33 rfl)
  have F_TRY_P_FAILED_begunAs : Fld s s.heap a_TRY_P_FAILED "com/example/signalbox/signalbox/runtime/Event" "begunAs" "Lcom/example/signalbox/signalbox/runtime/Event;" (.ref a_P) := Fld.start (own_fv ev_TRY_P_FAILED n34 ev_P)
  have F_TRY_LOCK_FAILED_begunAs : Fld s s.heap a_TRY_LOCK_FAILED "com/example/signalbox/signalbox/runtime/Event" "begunAs" "Lcom/example/signalbox/signalbox/runtime/Event;" (.ref a_LOCK) := Fld.start (own_fv ev_TRY_LOCK_FAILED n35 ev_LOCK)
  have hK : Known s s.heap a_P a_UNLOCK a_V a_LOCK a_V_BLOCKED a_TRY_P_FAILED a_LOCK_BLOCKED a_P_BLOCKED a_TRY_LOCK_FAILED := ⟨S_P, S_UNLOCK, S_V, S_LOCK, S_V_BLOCKED, S_TRY_P_FAILED, S_LOCK_BLOCKED, S_P_BLOCKED, S_TRY_LOCK_FAILED, E_P, E_UNLOCK, E_V, E_LOCK, E_V_BLOCKED, E_TRY_P_FAILED, E_LOCK_BLOCKED, E_P_BLOCKED, E_TRY_LOCK_FAILED, F_UNLOCK_ordinal, F_P_ordinal, F_V_ordinal, F_UNLOCK_neverCompleted, F_LOCK_ordinal, F_LOCK_neverCompleted, F_V_BLOCKED_ordinal, F_V_BLOCKED_neverCompleted, F_V_BLOCKED_begunAs, F_TRY_P_FAILED_ordinal, F_TRY_P_FAILED_neverCompleted, F_LOCK_BLOCKED_ordinal, F_LOCK_BLOCKED_neverCompleted, F_LOCK_BLOCKED_begunAs, F_P_BLOCKED_ordinal, F_P_BLOCKED_neverCompleted, F_P_BLOCKED_begunAs, F_TRY_LOCK_FAILED_ordinal, F_TRY_LOCK_FAILED_neverCompleted, F_P_neverCompleted, F_P_begunAs, F_UNLOCK_begunAs, F_V_neverCompleted, F_V_begunAs, F_LOCK_begunAs, F_TRY_P_FAILED_begunAs, F_TRY_LOCK_FAILED_begunAs⟩
  obtain ⟨n, o, h1, h2, h3, _, L, rfl, ⟨rfl, N⟩, hq⟩ := c_law l s _ hw i0 a_P a_UNLOCK a_V a_LOCK a_V_BLOCKED a_TRY_P_FAILED a_LOCK_BLOCKED a_P_BLOCKED a_TRY_LOCK_FAILED s.heap hK p e ha hc hk s m _ below hf ((Spec.applies_iff_loose hf).mp happ).1 ⟨rfl, State.Warmed39.refl s, rfl⟩ trivial
  refine ⟨n, _, h1, h2, h3, hpost _ _ _ _ _ _ ⟨Cond.after_iff.mpr rfl, Cond.after_iff.mpr (eq_i res_at (Term.int_eval (1)) rfl), trivial⟩ ⟨hq.1, hq.2.1, (hq.2.2.sift fun y hy => Or.inr (N y hy)).mono (by decide) (by decide)⟩⟩
theorem main_1_1 : Claimed_1_1 := comes_1 fun _ _ _ _ _ _ h hF => ⟨h.1, hF⟩
theorem main_1_2 : Claimed_1_2 := comes_1 fun _ _ _ _ _ _ h hF => ⟨h.2.1, hF⟩
end Jvm.Pilot.@@N@@
namespace Jvm.Pilot.@@N@@
open Jvm Jvm.ClassFile Sem Op Lib Jvm.Free Jvm.Stand Jvm.Pilot.@@N@@.Jvm.D
/-! MADE BY PROGRAM (witnessworld.py) out of the Statement's table words and the real class files: 12 classes; the members and pool entries that the words name. The judged class is class 1, her method 1. -/
namespace start1
open Jvm.ClassFile
def u (s : String) : CpInfo := .utf8 (stringToUtf16 s)
/-- a pool by its gaps: so many unusable entries, then the entry; so many at the end -/
def gap : Nat → List CpInfo → List CpInfo
  | 0, r => r
  | n + 1, r => .unusable :: gap n r
def poolList (es : List (Nat × CpInfo)) (last : Nat) : List CpInfo := es.foldr (fun e r => gap e.1 (e.2 :: r)) (gap last [])
def pool (es : List (Nat × CpInfo)) (last : Nat) : Array CpInfo := ⟨poolList es last⟩
def fileOf (pool : Array CpInfo) (this : Nat) (attrs : Array Attribute := #[]) (ms : Array MethodInfo := #[]) (fl : Nat := 33) (sup : Nat := 0) (ifs : Array Nat := #[]) (fds : Array FieldInfo := #[]) : ClassFile where
  minorVersion := 0
  majorVersion := 65
  constantPool := pool
  accessFlags := fl
  thisClass := this
  superClass := sup
  interfaces := ifs
  fields := fds
  methods := ms
  attributes := attrs
def plain (name : String) (sup : Option ClassId) : Class where
  name := name
  kind := .ordinary
  loader := none
  accessFlags := 33
  super := sup
  interfaces := #[]
  cf := none
  fields := #[]
  methods := #[]
  instanceTypes := #[]
  staticTypes := #[]
  resolved := #[]
  callSites := []
  init := .initialized
  statics := none
  mirror := none

def pool0 : Array CpInfo := pool [(5, u "<init>"), (0, u "()V"), (1, .class_ 10), (1, u "java/lang/Object")] 113

def k0m0 : Method := { name := "<init>", desc := "()V", sig := { parameters := [], returnType := none }, accessFlags := 1, code := none }
/-- java/lang/Object -/
def k0 : Class := { plain "java/lang/Object" none with
  accessFlags := 33
  interfaces := #[]
  cf := some (fileOf pool0 8 #[] #[{ accessFlags := 1, nameIndex := 5, descriptorIndex := 6, attributes := #[] }] 33 0 #[] #[])
  fields := #[]
  methods := #[k0m0]
  instanceTypes := #[]
  staticTypes := #[]
  resolved := Array.replicate 124 none
  statics := none }

def pool1 : Array CpInfo := pool [(2, .class_ 4), (1, u "java/lang/Object"), (0, u "<init>"), (0, u "()V"), (0, .integer 2147483647), (0, .methodref 9 10), (0, .class_ 11), (0, .nameAndType 12 13), (0, u "com/example/signalbox/signalbox/runtime/EventTakesCountPinLaw"), (0, u "pick"), (0, u "(I)Lcom/example/signalbox/signalbox/runtime/Event;"), (0, .methodref 15 16), (0, .class_ 17), (0, .nameAndType 18 19), (0, u "com/example/signalbox/signalbox/runtime/Event"), (0, u "takesCount"), (0, u "()Z"), (0, .fieldref 15 21), (0, .nameAndType 22 23), (0, u "P"), (0, u "Lcom/example/signalbox/signalbox/runtime/Event;"), (0, .fieldref 15 25), (0, .nameAndType 26 23), (0, u "V"), (0, .fieldref 15 28), (0, .nameAndType 29 23), (0, u "LOCK"), (0, .fieldref 15 31), (0, .nameAndType 32 23), (0, u "UNLOCK"), (0, .fieldref 15 34), (0, .nameAndType 35 23), (0, u "TRY_P_FAILED"), (0, .fieldref 15 37), (0, .nameAndType 38 23), (0, u "TRY_LOCK_FAILED"), (0, .fieldref 15 40), (0, .nameAndType 41 23), (0, u "P_BLOCKED"), (0, .fieldref 15 43), (0, .nameAndType 44 23), (0, u "V_BLOCKED"), (0, .fieldref 15 46), (0, .nameAndType 47 23), (0, u "LOCK_BLOCKED"), (2, u "law"), (0, u "(I)Z")] 3

def k1m0 : Method := { name := "<init>", desc := "()V", sig := { parameters := [], returnType := none }, accessFlags := 1, code := none }
def k1c1 : Code := { maxStack := 2, maxLocals := 4, code := code, exceptionTable := #[], attributes := #[] }
def k1m1 : Method := { name := "law", desc := "(I)Z", sig := { parameters := [.int], returnType := some .boolean }, accessFlags := 9, code := some k1c1 }
def k1c2 : Code := { maxStack := 2, maxLocals := 1, code := method_3_code, exceptionTable := #[], attributes := #[] }
def k1m2 : Method := { name := "pick", desc := "(I)Lcom/example/signalbox/signalbox/runtime/Event;", sig := { parameters := [.int], returnType := some (.object "com/example/signalbox/signalbox/runtime/Event") }, accessFlags := 10, code := some k1c2 }
/-- com/example/signalbox/signalbox/runtime/EventTakesCountPinLaw -/
def k1 : Class := { plain "com/example/signalbox/signalbox/runtime/EventTakesCountPinLaw" (some 0) with
  accessFlags := 49
  interfaces := #[]
  cf := some (fileOf pool1 9 #[] #[{ accessFlags := 1, nameIndex := 5, descriptorIndex := 6, attributes := #[] }, { accessFlags := 9, nameIndex := 50, descriptorIndex := 51, attributes := #[] }, { accessFlags := 10, nameIndex := 12, descriptorIndex := 13, attributes := #[] }] 49 2 #[] #[])
  fields := #[]
  methods := #[k1m0, k1m1, k1m2]
  instanceTypes := #[]
  staticTypes := #[]
  resolved := Array.replicate 55 none
  statics := none }

def pool2 : Array CpInfo := pool [(1, .class_ 2), (0, u "java/lang/constant/Constable"), (0, .class_ 4), (0, u "java/lang/Object")] 6

/-- java/lang/constant/Constable -/
def k2 : Class := { plain "java/lang/constant/Constable" (some 0) with
  accessFlags := 1537
  interfaces := #[]
  cf := some (fileOf pool2 1 #[] #[] 1537 3 #[] #[])
  fields := #[]
  methods := #[]
  instanceTypes := #[]
  staticTypes := #[]
  resolved := Array.replicate 11 none
  statics := none }

def pool3 : Array CpInfo := pool [(1, .class_ 2), (0, u "java/lang/Comparable"), (0, .class_ 4), (0, u "java/lang/Object")] 7

/-- java/lang/Comparable -/
def k3 : Class := { plain "java/lang/Comparable" (some 0) with
  accessFlags := 1537
  interfaces := #[]
  cf := some (fileOf pool3 1 #[] #[] 1537 3 #[] #[])
  fields := #[]
  methods := #[]
  instanceTypes := #[]
  staticTypes := #[]
  resolved := Array.replicate 12 none
  statics := none }

def pool4 : Array CpInfo := pool [(1, .class_ 2), (0, u "java/io/Serializable"), (0, .class_ 4), (0, u "java/lang/Object")] 2

/-- java/io/Serializable -/
def k4 : Class := { plain "java/io/Serializable" (some 0) with
  accessFlags := 1537
  interfaces := #[]
  cf := some (fileOf pool4 1 #[] #[] 1537 3 #[] #[])
  fields := #[]
  methods := #[]
  instanceTypes := #[]
  staticTypes := #[]
  resolved := Array.replicate 7 none
  statics := none }

def pool5 : Array CpInfo := pool [(2, .class_ 4), (1, u "java/lang/Enum"), (0, u "name"), (0, u "Ljava/lang/String;"), (2, u "ordinal"), (0, u "I"), (1, .class_ 14), (1, u "java/lang/Object"), (4, u "hash"), (86, .class_ 108), (1, u "java/lang/Enum$EnumDesc"), (2, .class_ 112), (0, u "java/lang/constant/Constable"), (0, .class_ 114), (0, u "java/lang/Comparable"), (0, .class_ 116), (0, u "java/io/Serializable")] 87

/-- java/lang/Enum -/
def k5 : Class := { plain "java/lang/Enum" (some 0) with
  accessFlags := 1057
  interfaces := #[2, 3, 4]
  cf := some (fileOf pool5 2 #[.nestMembers #[106]] #[] 1057 12 #[111, 113, 115] #[{ accessFlags := 18, nameIndex := 5, descriptorIndex := 6, attributes := #[] }, { accessFlags := 18, nameIndex := 9, descriptorIndex := 10, attributes := #[] }, { accessFlags := 2, nameIndex := 19, descriptorIndex := 10, attributes := #[] }])
  fields := #[{ name := "name", type := (.object "java/lang/String"), accessFlags := 18, slot := 0, constantValue := 0 }, { name := "ordinal", type := .int, accessFlags := 18, slot := 1, constantValue := 0 }, { name := "hash", type := .int, accessFlags := 2, slot := 2, constantValue := 0 }]
  methods := #[]
  instanceTypes := #[(.object "java/lang/String"), .int, .int]
  staticTypes := #[]
  resolved := Array.replicate 204 none
  statics := none }

def pool6 : Array CpInfo := pool [(1, .class_ 2), (0, u "com/example/signalbox/signalbox/runtime/Event"), (0, .fieldref 1 4), (0, .nameAndType 5 6), (0, u "P"), (0, u "Lcom/example/signalbox/signalbox/runtime/Event;"), (0, .fieldref 1 8), (0, .nameAndType 9 6), (0, u "V"), (2, u "LOCK"), (2, u "UNLOCK"), (2, u "TRY_P_FAILED"), (2, u "TRY_LOCK_FAILED"), (2, u "P_BLOCKED"), (2, u "V_BLOCKED"), (2, u "LOCK_BLOCKED"), (2, u "$VALUES"), (0, u "[Lcom/example/signalbox/signalbox/runtime/Event;"), (6, .class_ 43), (1, u "java/lang/Enum"), (11, u "word"), (0, u "Ljava/lang/String;"), (14, u "traceBytes"), (0, u "[B"), (0, .fieldref 1 74), (0, .nameAndType 75 6), (0, u "begunAs"), (0, .fieldref 1 77), (0, .nameAndType 78 79), (0, u "neverCompleted"), (0, u "Z"), (0, .methodref 1 81), (0, .nameAndType 82 83), (0, u "takesCount"), (0, u "()Z"), (15, u "ALL")] 77

def k6c0 : Code := { maxStack := 2, maxLocals := 1, code := prog_23_method_6_code, exceptionTable := #[], attributes := #[] }
def k6m0 : Method := { name := "takesCount", desc := "()Z", sig := { parameters := [], returnType := some .boolean }, accessFlags := 0, code := some k6c0 }
/-- com/example/signalbox/signalbox/runtime/Event -/
def k6 : Class := { plain "com/example/signalbox/signalbox/runtime/Event" (some 5) with
  accessFlags := 16433
  interfaces := #[]
  cf := some (fileOf pool6 1 #[] #[{ accessFlags := 0, nameIndex := 82, descriptorIndex := 83, attributes := #[] }] 16433 41 #[] #[{ accessFlags := 16409, nameIndex := 5, descriptorIndex := 6, attributes := #[] }, { accessFlags := 16409, nameIndex := 9, descriptorIndex := 6, attributes := #[] }, { accessFlags := 16409, nameIndex := 12, descriptorIndex := 6, attributes := #[] }, { accessFlags := 16409, nameIndex := 15, descriptorIndex := 6, attributes := #[] }, { accessFlags := 16409, nameIndex := 18, descriptorIndex := 6, attributes := #[] }, { accessFlags := 16409, nameIndex := 21, descriptorIndex := 6, attributes := #[] }, { accessFlags := 16409, nameIndex := 24, descriptorIndex := 6, attributes := #[] }, { accessFlags := 16409, nameIndex := 27, descriptorIndex := 6, attributes := #[] }, { accessFlags := 16409, nameIndex := 30, descriptorIndex := 6, attributes := #[] }, { accessFlags := 26, nameIndex := 99, descriptorIndex := 34, attributes := #[] }, { accessFlags := 18, nameIndex := 55, descriptorIndex := 56, attributes := #[] }, { accessFlags := 18, nameIndex := 71, descriptorIndex := 72, attributes := #[] }, { accessFlags := 18, nameIndex := 75, descriptorIndex := 6, attributes := #[] }, { accessFlags := 18, nameIndex := 78, descriptorIndex := 79, attributes := #[] }, { accessFlags := 4122, nameIndex := 33, descriptorIndex := 34, attributes := #[] }])
  fields := #[{ name := "P", type := (.object "com/example/signalbox/signalbox/runtime/Event"), accessFlags := 16409, slot := 0, constantValue := 0 }, { name := "V", type := (.object "com/example/signalbox/signalbox/runtime/Event"), accessFlags := 16409, slot := 1, constantValue := 0 }, { name := "LOCK", type := (.object "com/example/signalbox/signalbox/runtime/Event"), accessFlags := 16409, slot := 2, constantValue := 0 }, { name := "UNLOCK", type := (.object "com/example/signalbox/signalbox/runtime/Event"), accessFlags := 16409, slot := 3, constantValue := 0 }, { name := "TRY_P_FAILED", type := (.object "com/example/signalbox/signalbox/runtime/Event"), accessFlags := 16409, slot := 4, constantValue := 0 }, { name := "TRY_LOCK_FAILED", type := (.object "com/example/signalbox/signalbox/runtime/Event"), accessFlags := 16409, slot := 5, constantValue := 0 }, { name := "P_BLOCKED", type := (.object "com/example/signalbox/signalbox/runtime/Event"), accessFlags := 16409, slot := 6, constantValue := 0 }, { name := "V_BLOCKED", type := (.object "com/example/signalbox/signalbox/runtime/Event"), accessFlags := 16409, slot := 7, constantValue := 0 }, { name := "LOCK_BLOCKED", type := (.object "com/example/signalbox/signalbox/runtime/Event"), accessFlags := 16409, slot := 8, constantValue := 0 }, { name := "ALL", type := (.array (.object "com/example/signalbox/signalbox/runtime/Event")), accessFlags := 26, slot := 9, constantValue := 0 }, { name := "word", type := (.object "java/lang/String"), accessFlags := 18, slot := 3, constantValue := 0 }, { name := "traceBytes", type := (.array .byte), accessFlags := 18, slot := 4, constantValue := 0 }, { name := "begunAs", type := (.object "com/example/signalbox/signalbox/runtime/Event"), accessFlags := 18, slot := 5, constantValue := 0 }, { name := "neverCompleted", type := .boolean, accessFlags := 18, slot := 6, constantValue := 0 }, { name := "$VALUES", type := (.array (.object "com/example/signalbox/signalbox/runtime/Event")), accessFlags := 4122, slot := 10, constantValue := 0 }]
  methods := #[k6m0]
  instanceTypes := #[(.object "java/lang/String"), .int, .int, (.object "java/lang/String"), (.array .byte), (.object "com/example/signalbox/signalbox/runtime/Event"), .boolean]
  staticTypes := #[(.object "com/example/signalbox/signalbox/runtime/Event"), (.object "com/example/signalbox/signalbox/runtime/Event"), (.object "com/example/signalbox/signalbox/runtime/Event"), (.object "com/example/signalbox/signalbox/runtime/Event"), (.object "com/example/signalbox/signalbox/runtime/Event"), (.object "com/example/signalbox/signalbox/runtime/Event"), (.object "com/example/signalbox/signalbox/runtime/Event"), (.object "com/example/signalbox/signalbox/runtime/Event"), (.object "com/example/signalbox/signalbox/runtime/Event"), (.array (.object "com/example/signalbox/signalbox/runtime/Event")), (.array (.object "com/example/signalbox/signalbox/runtime/Event"))]
  resolved := Array.replicate 177 none
  statics := some 0 }

def pool7 : Array CpInfo := pool [(1, u "java/lang/Cloneable"), (0, .class_ 1), (0, u "java/lang/Object"), (0, .class_ 3)] 3

/-- java/lang/Cloneable -/
def k7 : Class := { plain "java/lang/Cloneable" (some 0) with
  accessFlags := 1537
  interfaces := #[]
  cf := some (fileOf pool7 2 #[] #[] 1537 4 #[] #[])
  fields := #[]
  methods := #[]
  instanceTypes := #[]
  staticTypes := #[]
  resolved := Array.replicate 8 none
  statics := none }

/-- the primitive byte -/
def k8 : Class := { plain "byte" none with kind := .primitive 'B', accessFlags := 0x411 }
/-- [B -/
def k9 : Class := { plain "[B" (some 0) with kind := .array 8 .byte, interfaces := #[7, 4], accessFlags := 1041 }

/-- the primitive int -/
def k10 : Class := { plain "int" none with kind := .primitive 'I', accessFlags := 0x411 }
/-- [I -/
def k11 : Class := { plain "[I" (some 0) with kind := .array 10 .int, interfaces := #[7, 4], accessFlags := 1041 }

def heap : Heap := #[{ cls := 6, slots := #[.ref 1, .ref 2, .ref 3, .ref 4, .ref 5, .ref 6, .ref 7, .ref 8, .ref 9, .null, .null], vm := .statics 6 },
  { cls := 6, slots := #[.null, .int 0, .int 0, .null, .null, .null, .int 0], vm := .none },
  { cls := 6, slots := #[.null, .int 1, .int 0, .null, .null, .null, .int 0], vm := .none },
  { cls := 6, slots := #[.null, .int 2, .int 0, .null, .null, .null, .int 0], vm := .none },
  { cls := 6, slots := #[.null, .int 3, .int 0, .null, .null, .null, .int 0], vm := .none },
  { cls := 6, slots := #[.null, .int 4, .int 0, .null, .null, .ref 1, .int 0], vm := .none },
  { cls := 6, slots := #[.null, .int 5, .int 0, .null, .null, .ref 3, .int 0], vm := .none },
  { cls := 6, slots := #[.null, .int 6, .int 0, .null, .null, .ref 1, .int 1], vm := .none },
  { cls := 6, slots := #[.null, .int 7, .int 0, .null, .null, .ref 2, .int 1], vm := .none },
  { cls := 6, slots := #[.null, .int 8, .int 0, .null, .null, .ref 3, .int 1], vm := .none }]
def classes : Array Class := #[k0, k1, k2, k3, k4, k5, k6, k7, k8, k9, k10, k11]
def interned : List (Array UInt16 × Addr) := []
def slotsUsed : Nat := 74
def theMethod : MethodId := ⟨1, 1⟩
def args0 : Array Value := #[.int 5]
def aboutOver (below : List Frame) : State where
  vm := { classes := classes, interned := interned.toArray }
  heap := heap
  slotsUsed := slotsUsed
  threads := #[{ frames := .invoking theMethod args0 :: below }]
def below0 : List Frame := [.native { method := ⟨0, 0⟩, args := #[] }]
def about1 : State := aboutOver below0
def p0 : Program := .bare "" "" ""
def e0 : Env := launch0.env 0 0 0
theorem w_frames : about1.frames = Frame.invoking theMethod args0 :: below0 := rfl
set_option maxRecDepth 65536 in
theorem w_args : argsFit about1.vm theMethod args0 = true := by decide +kernel
set_option maxRecDepth 65536 in
theorem w_heap : heapFits about1 = true := by decide +kernel
set_option maxRecDepth 65536 in
theorem w_runnable : about1.curStatus? = some .runnable := by decide +kernel
set_option maxRecDepth 65536 in
theorem w_alone : about1.alone = true := by decide +kernel
set_option maxRecDepth 65536 in
theorem w_named : about1.methodNamed? x = some theMethod := by decide +kernel
set_option maxRecDepth 65536 in
theorem w_hears : about1.hears theMethod below0 = true := by decide +kernel
set_option maxRecDepth 65536 in
theorem w_ripe : about1.ripe theMethod args0 below0 = true := by decide +kernel
theorem w_running : about1.status = .running := rfl
set_option maxRecDepth 65536 in
theorem w_room : about1.hasRoom e0.platform room_1 = true :=
  launch0.hasRoom_least _ room_1 (by decide +kernel) (by decide +kernel) (by decide +kernel) (by decide +kernel) (by decide +kernel) (by decide +kernel)
theorem allAtoms_all (ts : List Jvm.Cond) (a : Array Jvm.Value) (st : Jvm.State) : (allAtoms ts).before a st = ts.all (fun c => c.before a st) := by
  induction ts with
  | nil => rfl
  | cons c t ih =>
    show (Jvm.Cond.and c (allAtoms t)).before a st = _
    rw [Jvm.Cond.before_and, ih, List.all_cons]
def words1 : List Jvm.Cond := Jvm.Cond.code x code maxLocals ret :: tables_1
/-- a 'code' word, met by the world's own term for the bytes: nothing is compared byte by byte -/
theorem code_word {y : MethodName} {bytes : ByteArray} {mx : Nat} {rt : Option FieldType} {a : Array Value} {s : State} {m : MethodId} {meth : Method} {c : Code} (h1 : s.methodNamed? y = some m) (h2 : s.vm.method? m = some meth) (h3 : meth.code = some c) (h4 : c.code = bytes)
    (h5 : (c.maxLocals == mx && c.exceptionTable.isEmpty && decide (c.maxStack ≤ mostOperands) && decide (meth.sig.returnType = rt) && !meth.locks && decide (parseMethodDescriptor y.desc = some meth.sig)) = true) : (Jvm.Cond.code y bytes mx rt).before a s = true := by
  simp only [Bool.and_eq_true, beq_iff_eq, Bool.not_eq_true', decide_eq_true_eq] at h5
  obtain ⟨⟨⟨⟨⟨g1, g2⟩, g3⟩, g4⟩, g5⟩, g6⟩ := h5
  simp [Cond.before, Cond.holds, Cond.value, h1, h2, h3, h4, g1, g2, g3, g4, g5, g6]
def isCode : Jvm.Cond → Bool
  | .code _ _ _ _ => true
  | _ => false
theorem all_split {L : List Jvm.Cond} {P : Jvm.Cond → Bool} (h1 : L.all (fun c => isCode c || P c) = true) (h2 : ∀ c ∈ L.filter isCode, P c = true) : L.all P = true := by
  refine List.all_eq_true.mpr fun c hc => ?_
  have h := List.all_eq_true.mp h1 c hc
  rcases Bool.eq_false_or_eq_true (isCode c) with hi | hi
  · exact h2 c (List.mem_filter.mpr ⟨hc, hi⟩)
  · simpa [hi] using h
set_option maxRecDepth 65536 in
theorem w_c0 : (Jvm.Cond.code x code maxLocals ret).before args0 about1 = true := code_word (m := ⟨1, 1⟩) (meth := k1m1) (c := k1c1) (by decide +kernel) rfl rfl rfl (by decide +kernel)
set_option maxRecDepth 65536 in
theorem w_c1 : (Jvm.Cond.code ({ cls := "com/example/signalbox/signalbox/runtime/EventTakesCountPinLaw", name := "pick", desc := "(I)Lcom/example/signalbox/signalbox/runtime/Event;" } : Jvm.MethodName) method_3_code (1 : Nat) (Option.some (Jvm.ClassFile.FieldType.object "com/example/signalbox/signalbox/runtime/Event"))).before args0 about1 = true := code_word (m := ⟨1, 2⟩) (meth := k1m2) (c := k1c2) (by decide +kernel) rfl rfl rfl (by decide +kernel)
set_option maxRecDepth 65536 in
theorem w_c2 : (Jvm.Cond.code ({ cls := "com/example/signalbox/signalbox/runtime/Event", name := "takesCount", desc := "()Z" } : Jvm.MethodName) prog_23_method_6_code (1 : Nat) (Option.some Jvm.ClassFile.FieldType.boolean)).before args0 about1 = true := code_word (m := ⟨6, 0⟩) (meth := k6m0) (c := k6c0) (by decide +kernel) rfl rfl rfl (by decide +kernel)
def codes1 : List Jvm.Cond := [Jvm.Cond.code x code maxLocals ret, Jvm.Cond.code ({ cls := "com/example/signalbox/signalbox/runtime/EventTakesCountPinLaw", name := "pick", desc := "(I)Lcom/example/signalbox/signalbox/runtime/Event;" } : Jvm.MethodName) method_3_code (1 : Nat) (Option.some (Jvm.ClassFile.FieldType.object "com/example/signalbox/signalbox/runtime/Event")), Jvm.Cond.code ({ cls := "com/example/signalbox/signalbox/runtime/Event", name := "takesCount", desc := "()Z" } : Jvm.MethodName) prog_23_method_6_code (1 : Nat) (Option.some Jvm.ClassFile.FieldType.boolean)]
set_option maxRecDepth 65536 in
theorem codes_eq : words1.filter isCode = codes1 := rfl
theorem w_codes : ∀ c ∈ words1.filter isCode, c.before args0 about1 = true := by
  rw [codes_eq]
  intro c hc
  simp only [codes1, List.mem_cons, List.not_mem_nil, or_false] at hc
  rcases hc with rfl | rfl | rfl
  · exact w_c0
  · exact w_c1
  · exact w_c2
set_option maxRecDepth 65536 in
theorem w_t1 : (words1.take 24).all (fun c => isCode c || c.before args0 about1) = true := by decide +kernel
set_option maxRecDepth 65536 in
theorem w_t2 : (words1.drop 24).all (fun c => isCode c || c.before args0 about1) = true := by decide +kernel
theorem w_tables : (allAtoms (Jvm.Cond.code x code maxLocals ret :: tables_1)).before args0 about1 = true := by
  rw [allAtoms_all]
  show words1.all (fun c => c.before args0 about1) = true
  refine all_split ?_ w_codes
  rw [← List.take_append_drop 24 words1, List.all_append, w_t1, w_t2]
  rfl
set_option maxRecDepth 65536 in
theorem w_case : (Jvm.Cond.and given_1 narrow_1).before args0 about1 = true := by decide +kernel
theorem w_applies : (headSpec (Jvm.Cond.code x code maxLocals ret :: tables_1) room_1).applies x e0.platform about1 = true :=
  (Spec.applies_iff w_frames).mpr ⟨w_running, w_runnable, w_alone, w_named, w_hears, w_ripe, w_room, w_tables⟩
theorem atStart : AtStart classFile x code maxLocals ret World_1 tables_1 room_1 Calls_1 rest_1 Pre_1 launch0 p0 e0 about1 theMethod args0 below0 :=
  ⟨lists_1, trivial, launch0.admits_env _ _ _, launch0.least_env, fairChoices_fair.cas, fairChoices_fair.clock, w_frames, w_args, w_heap, w_applies, trivial, trivial, w_case⟩
end start1
theorem witness_1 : WitnessClaimed_1 := ⟨start1.p0, start1.e0, start1.about1, start1.theMethod, start1.args0, start1.below0, start1.atStart⟩
end Jvm.Pilot.@@N@@
