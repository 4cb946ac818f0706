import JvmDerived
import JvmDerived.Pilot.@@N@@Statement
import JvmDerived.Pilot.@@N@@Code
set_option linter.unusedVariables false
set_option linter.unusedSimpArgs false
@@BLOCK:NumsL.lean.txt@@
namespace Jvm.Pilot.@@N@@
open Jvm Jvm.ClassFile Sem Op Lib Jvm.Free Jvm.Stand Jvm.LawKit Jvm.RoadKit Bundle Jvm.Pilot.@@N@@.Jvm.D
section OwnLayer
variable {p : Program} {l : Launch} {e : Env} {R : Room} {s : State} {m : MethodId} {args : Array Value} {below : List Frame} {meth : Method} {c : Code} {T : State} {locs : List Loc} {cells slots : Nat}
variable {F : State → Outcome → Prop} {kc ks : Nat} {Q : Option Value → Heap → List Loc → Prop} {pc pc' : Nat} {ls : Array Slot} {st : List Value} {Z : State} {a0 : Array Value} {h : Heap}
/-- from this state and frame the run comes to an end of which F holds -/
def Goes (p : Program) (e : Env) (below : List Frame) (F : State → Outcome → Prop) (T : State) (g : JFrame) : Prop :=
  ∃ s₂ o, Steps p.tables e below (T.setTop g) s₂ ∧ s₂.status = .running ∧ Ended s₂ below o ∧ F s₂ o
/-- it returns, Q holds of the value, the heap and the places written; the frame is the plain one -/
def FinN (s : State) (kc ks : Nat) (Q : Option Value → Heap → List Loc → Prop) (s₂ : State) (o : Outcome) : Prop := ∃ v L, o = .returned v ∧ Q v s₂.heap L ∧ FrameEnd s o s₂ L kc ks
theorem Goes.fore {T' : State} {g g' : JFrame} (k : ∀ target, Steps p.tables e below (T'.setTop g') target → Steps p.tables e below (T.setTop g) target) (G : Goes p e below F T' g') : Goes p e below F T g := by
  obtain ⟨a, b, h, r⟩ := G; exact ⟨a, b, k _ h, r⟩
theorem Goes.tr {T' : State} {g g' : JFrame} (k : Steps p.tables e below (T.setTop g) (T'.setTop g')) (G : Goes p e below F T' g') : Goes p e below F T g := by
  obtain ⟨a, b, h, r⟩ := G; exact ⟨a, b, k.trans h, r⟩
theorem Goes.cast {g g' : JFrame} (q : g = g') (G : Goes p e below F T g') : Goes p e below F T g := q ▸ G
/-- a body's contract: called with these arguments on this heap it returns, and Q holds of the value, the heap and the places written -/
def Ctr (l : Launch) (Z : State) (y : MethodName) (bytes : ByteArray) (maxL : Nat) (ret : Option FieldType) (ws : List Jvm.Cond) (rm : Room) (as' : Array Value) (h0 : Heap) (Q : Option Value → Heap → List Loc → Prop) : Prop :=
  MetFree l y (head1 (Jvm.Cond.code y bytes maxL ret :: ws) rm) (fun a U => a = as' ∧ Z.Warmed39 U.vm ∧ U.heap = h0) (fun _ _ _ _ _ => True) (fun _ U o U' => ∃ v L, o = .returned v ∧ Q v U'.heap L ∧ FrameEnd U o U' L rm.cells rm.slots)
theorem Ctr.of {y : MethodName} {bytes : ByteArray} {maxL : Nat} {ret : Option FieldType} {ws : List Jvm.Cond} {rm : Room} {as' : Array Value} {h0 : Heap} (hp : plainFor y = true)
    (body : ∀ (p : Program) (e : Env) (s : State) (m : MethodId) (below : List Frame) (meth : Method) (c : Code) (s₁ : State), p.tables.exec = Jvm.exec → c.code = bytes → c.maxLocals = maxL → meth.sig.returnType = ret → s.vm.findClass y.cls = some m.cls → meth.name = y.name → Z.Warmed39 s.vm → meth.locks = false → Stand p l e rm s m as' below meth c s₁ [] 0 0 → s₁.heap = h0 → Goes p e below (FinN s rm.cells rm.slots Q) s₁ (entryFrame m as' maxL)) :
    Ctr l Z y bytes maxL ret ws rm as' h0 Q := by
  refine MetFree.of_bodySF hp hisR ?_
  intro p e s m args below meth c s₁ Bd hml hP hK
  obtain ⟨rfl, hZ, hh⟩ := hP
  exact body p e s m below meth c s₁ Bd.exec Bd.bytes hml Bd.returns (findClass_of_methodNamed Bd.named) (name_of_methodNamed Bd.named Bd.method).1 hZ Bd.notSynchronized (Stand.of_body Bd) (by rw [← hh, Bd.state]; rfl)
theorem Ctr.mono {y : MethodName} {bytes : ByteArray} {maxL : Nat} {ret : Option FieldType} {ws : List Jvm.Cond} {rm : Room} {as' : Array Value} {h0 : Heap} {Q' : Option Value → Heap → List Loc → Prop} (C : Ctr l Z y bytes maxL ret ws rm as' h0 Q) (hq : ∀ v h L, Q v h L → Q' v h L) : Ctr l Z y bytes maxL ret ws rm as' h0 Q' := by
  intro p e ha hc hk s m args below hf happ hP hK
  obtain ⟨n, o, h1, h2, h3, v, L, h4, h5, h6⟩ := C p e ha hc hk s m args below hf happ hP hK
  exact ⟨n, o, h1, h2, h3, v, L, h4, hq _ _ _ h5, h6⟩
/-- it returns w and leaves the heap as it was -/
def Just (h0 : Heap) (w : Value) (v : Option Value) (h : Heap) (L : List Loc) : Prop := v = some w ∧ h = h0 ∧ L = []
theorem gLoadIN (X : Stand p l e R s m args below meth c T locs cells slots) (hx : p.tables.exec = Jvm.exec) {k : Fin 4} {v : Int32} (hd : decode c.code pc = .ok (.iload_n k, 1)) (hl : ls[k.val]? = some (.val (.int v))) (hp : pc + 1 = pc') (k : Goes p e below F T (mkF m pc' ls (.int v :: st))) : Goes p e below F T (mkF m pc ls st) := by
  subst hp; exact Goes.fore (fun _ q => XS.iloadN X.here hx rfl hd hl q) k
theorem gLoadI (X : Stand p l e R s m args below meth c T locs cells slots) (hx : p.tables.exec = Jvm.exec) {k : Nat} {v : Int32} (hd : decode c.code pc = .ok (.iload k, 2)) (hl : ls[k]? = some (.val (.int v))) (hp : pc + 2 = pc') (k : Goes p e below F T (mkF m pc' ls (.int v :: st))) : Goes p e below F T (mkF m pc ls st) := by
  subst hp; exact Goes.fore (fun _ q => XS.iload X.here hx rfl hd hl q) k
theorem gStoreIN (X : Stand p l e R s m args below meth c T locs cells slots) (hx : p.tables.exec = Jvm.exec) {k : Fin 4} {v : Int32} {l' : Array Slot} (hd : decode c.code pc = .ok (.istore_n k, 1)) (hl : storeLocals ls k.val (.int v) = some l') (hp : pc + 1 = pc') (k : Goes p e below F T (mkF m pc' l' st)) : Goes p e below F T (mkF m pc ls (.int v :: st)) := by
  subst hp; exact Goes.fore (fun _ q => XS.istoreN X.here hx rfl hd rfl hl q) k
theorem gStoreI (X : Stand p l e R s m args below meth c T locs cells slots) (hx : p.tables.exec = Jvm.exec) {k : Nat} {v : Int32} {l' : Array Slot} (hd : decode c.code pc = .ok (.istore k, 2)) (hl : storeLocals ls k (.int v) = some l') (hp : pc + 2 = pc') (k : Goes p e below F T (mkF m pc' l' st)) : Goes p e below F T (mkF m pc ls (.int v :: st)) := by
  subst hp; exact Goes.fore (fun _ q => XS.istore X.here hx rfl hd rfl hl q) k
theorem gLoadJN (X : Stand p l e R s m args below meth c T locs cells slots) (hx : p.tables.exec = Jvm.exec) {k : Fin 4} {v : Int64} (hd : decode c.code pc = .ok (.lload_n k, 1)) (hl : ls[k.val]? = some (.val (.long v))) (hp : pc + 1 = pc') (k : Goes p e below F T (mkF m pc' ls (.long v :: st))) : Goes p e below F T (mkF m pc ls st) := by
  subst hp; exact Goes.fore (fun _ q => XS.lloadN X.here hx rfl hd hl q) k
theorem gLoadJ (X : Stand p l e R s m args below meth c T locs cells slots) (hx : p.tables.exec = Jvm.exec) {k : Nat} {v : Int64} (hd : decode c.code pc = .ok (.lload k, 2)) (hl : ls[k]? = some (.val (.long v))) (hp : pc + 2 = pc') (k : Goes p e below F T (mkF m pc' ls (.long v :: st))) : Goes p e below F T (mkF m pc ls st) := by
  subst hp; exact Goes.fore (fun _ q => XS.lload X.here hx rfl hd hl q) k
theorem gStoreJN (X : Stand p l e R s m args below meth c T locs cells slots) (hx : p.tables.exec = Jvm.exec) {k : Fin 4} {v : Int64} {l' : Array Slot} (hd : decode c.code pc = .ok (.lstore_n k, 1)) (hl : storeLocals ls k.val (.long v) = some l') (hp : pc + 1 = pc') (k : Goes p e below F T (mkF m pc' l' st)) : Goes p e below F T (mkF m pc ls (.long v :: st)) := by
  subst hp; exact Goes.fore (fun _ q => XS.lstoreN X.here hx rfl hd rfl hl q) k
theorem gStoreJ (X : Stand p l e R s m args below meth c T locs cells slots) (hx : p.tables.exec = Jvm.exec) {k : Nat} {v : Int64} {l' : Array Slot} (hd : decode c.code pc = .ok (.lstore k, 2)) (hl : storeLocals ls k (.long v) = some l') (hp : pc + 2 = pc') (k : Goes p e below F T (mkF m pc' l' st)) : Goes p e below F T (mkF m pc ls (.long v :: st)) := by
  subst hp; exact Goes.fore (fun _ q => XS.lstore X.here hx rfl hd rfl hl q) k
theorem gLoadAN (X : Stand p l e R s m args below meth c T locs cells slots) (hx : p.tables.exec = Jvm.exec) {k : Fin 4} {v : Value} (hd : decode c.code pc = .ok (.aload_n k, 1)) (hl : ls[k.val]? = some (.val v)) (hv : v.isRef = true) (hp : pc + 1 = pc') (k : Goes p e below F T (mkF m pc' ls (v :: st))) : Goes p e below F T (mkF m pc ls st) := by
  subst hp; exact Goes.fore (fun _ q => XS.aloadN X.here hx rfl hd hl hv q) k
theorem gLoadA (X : Stand p l e R s m args below meth c T locs cells slots) (hx : p.tables.exec = Jvm.exec) {k : Nat} {v : Value} (hd : decode c.code pc = .ok (.aload k, 2)) (hl : ls[k]? = some (.val v)) (hv : v.isRef = true) (hp : pc + 2 = pc') (k : Goes p e below F T (mkF m pc' ls (v :: st))) : Goes p e below F T (mkF m pc ls st) := by
  subst hp; exact Goes.fore (fun _ q => XS.aload X.here hx rfl hd hl hv q) k
theorem gStoreAN (X : Stand p l e R s m args below meth c T locs cells slots) (hx : p.tables.exec = Jvm.exec) {k : Fin 4} {v : Value} {l' : Array Slot} (hd : decode c.code pc = .ok (.astore_n k, 1)) (hv : v.isRef = true) (hl : storeLocals ls k.val v = some l') (hp : pc + 1 = pc') (k : Goes p e below F T (mkF m pc' l' st)) : Goes p e below F T (mkF m pc ls (v :: st)) := by
  subst hp; exact Goes.fore (fun _ q => XS.astoreN X.here hx rfl hd rfl hv hl q) k
theorem gStoreA (X : Stand p l e R s m args below meth c T locs cells slots) (hx : p.tables.exec = Jvm.exec) {k : Nat} {v : Value} {l' : Array Slot} (hd : decode c.code pc = .ok (.astore k, 2)) (hv : v.isRef = true) (hl : storeLocals ls k v = some l') (hp : pc + 2 = pc') (k : Goes p e below F T (mkF m pc' l' st)) : Goes p e below F T (mkF m pc ls (v :: st)) := by
  subst hp; exact Goes.fore (fun _ q => XS.astore X.here hx rfl hd rfl hv hl q) k
theorem gIconst (X : Stand p l e R s m args below meth c T locs cells slots) (hx : p.tables.exec = Jvm.exec) {i : Int} {v : Int32} (hd : decode c.code pc = .ok (.iconst i, 1)) (hv : Int32.ofInt i = v) (hp : pc + 1 = pc') (k : Goes p e below F T (mkF m pc' ls (.int v :: st))) : Goes p e below F T (mkF m pc ls st) := by
  subst hp; exact Goes.fore (fun _ q => XT.iconstV X.here hx rfl v hd hv q) k
theorem gBipush (X : Stand p l e R s m args below meth c T locs cells slots) (hx : p.tables.exec = Jvm.exec) {i : Int} {v : Int32} (hd : decode c.code pc = .ok (.bipush i, 2)) (hv : (Int8.ofInt i).toInt32 = v) (hp : pc + 2 = pc') (k : Goes p e below F T (mkF m pc' ls (.int v :: st))) : Goes p e below F T (mkF m pc ls st) := by
  subst hp; exact Goes.fore (fun _ q => XT.bipushV X.here hx rfl v hd hv q) k
theorem gSipush (X : Stand p l e R s m args below meth c T locs cells slots) (hx : p.tables.exec = Jvm.exec) {i : Int} {v : Int32} (hd : decode c.code pc = .ok (.sipush i, 3)) (hv : (Int16.ofInt i).toInt32 = v) (hp : pc + 3 = pc') (k : Goes p e below F T (mkF m pc' ls (.int v :: st))) : Goes p e below F T (mkF m pc ls st) := by
  subst hp; exact Goes.fore (fun _ q => XT.sipushV X.here hx rfl v hd hv q) k
theorem gLconst (X : Stand p l e R s m args below meth c T locs cells slots) (hx : p.tables.exec = Jvm.exec) {i : Fin 2} {v : Int64} (hd : decode c.code pc = .ok (.lconst i, 1)) (hv : Int64.ofNat i = v) (hp : pc + 1 = pc') (k : Goes p e below F T (mkF m pc' ls (.long v :: st))) : Goes p e below F T (mkF m pc ls st) := by
  subst hp; exact Goes.fore (fun _ q => XT.lconstV X.here hx rfl v hd hv q) k
theorem gNull (X : Stand p l e R s m args below meth c T locs cells slots) (hx : p.tables.exec = Jvm.exec)  (hd : decode c.code pc = .ok (.aconst_null, 1))  (hp : pc + 1 = pc') (k : Goes p e below F T (mkF m pc' ls (.null :: st))) : Goes p e below F T (mkF m pc ls st) := by
  subst hp; exact Goes.fore (fun _ q => XS.aconstNull X.here hx rfl hd q) k
theorem gLdc (X : Stand p l e R s m args below meth c T locs cells slots) (hx : p.tables.exec = Jvm.exec) {own : String} {i : Nat} {v : Int32} (hZ : Z.Warmed39 s.vm) (hown : s.vm.findClass own = some m.cls) (w : (Jvm.Cond.constant own i v).before a0 Z = true) (hd : decode c.code pc = .ok (.ldc i, 2))  (hp : pc + 2 = pc') (k : Goes p e below F T (mkF m pc' ls (.int v :: st))) : Goes p e below F T (mkF m pc ls st) := by
  subst hp; exact Goes.fore (fun _ q => X.ldcI hx hown (mvT hZ w) rfl hd q) k
theorem gLdcW (X : Stand p l e R s m args below meth c T locs cells slots) (hx : p.tables.exec = Jvm.exec) {own : String} {i : Nat} {v : Int32} (hZ : Z.Warmed39 s.vm) (hown : s.vm.findClass own = some m.cls) (w : (Jvm.Cond.constant own i v).before a0 Z = true) (hd : decode c.code pc = .ok (.ldc_w i, 3))  (hp : pc + 3 = pc') (k : Goes p e below F T (mkF m pc' ls (.int v :: st))) : Goes p e below F T (mkF m pc ls st) := by
  subst hp; exact Goes.fore (fun _ q => X.ldcWI hx hown (mvT hZ w) rfl hd q) k
theorem gLdc2 (X : Stand p l e R s m args below meth c T locs cells slots) (hx : p.tables.exec = Jvm.exec) {own : String} {i : Nat} {v : Int64} (hZ : Z.Warmed39 s.vm) (hown : s.vm.findClass own = some m.cls) (w : (Jvm.Cond.constantLong own i v).before a0 Z = true) (hd : decode c.code pc = .ok (.ldc2_w i, 3))  (hp : pc + 3 = pc') (k : Goes p e below F T (mkF m pc' ls (.long v :: st))) : Goes p e below F T (mkF m pc ls st) := by
  subst hp; exact Goes.fore (fun _ q => X.ldc2J hx hown (mvT hZ w) rfl hd q) k
theorem gIadd (X : Stand p l e R s m args below meth c T locs cells slots) (hx : p.tables.exec = Jvm.exec) {x y : Int32} (hd : decode c.code pc = .ok (.iadd, 1))  (hp : pc + 1 = pc') (k : Goes p e below F T (mkF m pc' ls (.int (x + y) :: st))) : Goes p e below F T (mkF m pc ls (.int y :: .int x :: st)) := by
  subst hp; exact Goes.fore (fun _ q => XS.iadd X.here hx rfl hd rfl q) k
theorem gIsub (X : Stand p l e R s m args below meth c T locs cells slots) (hx : p.tables.exec = Jvm.exec) {x y : Int32} (hd : decode c.code pc = .ok (.isub, 1))  (hp : pc + 1 = pc') (k : Goes p e below F T (mkF m pc' ls (.int (x - y) :: st))) : Goes p e below F T (mkF m pc ls (.int y :: .int x :: st)) := by
  subst hp; exact Goes.fore (fun _ q => XS.isub X.here hx rfl hd rfl q) k
theorem gImul (X : Stand p l e R s m args below meth c T locs cells slots) (hx : p.tables.exec = Jvm.exec) {x y : Int32} (hd : decode c.code pc = .ok (.imul, 1))  (hp : pc + 1 = pc') (k : Goes p e below F T (mkF m pc' ls (.int (x * y) :: st))) : Goes p e below F T (mkF m pc ls (.int y :: .int x :: st)) := by
  subst hp; exact Goes.fore (fun _ q => XS.imul X.here hx rfl hd rfl q) k
theorem gIand (X : Stand p l e R s m args below meth c T locs cells slots) (hx : p.tables.exec = Jvm.exec) {x y : Int32} (hd : decode c.code pc = .ok (.iand, 1))  (hp : pc + 1 = pc') (k : Goes p e below F T (mkF m pc' ls (.int (x &&& y) :: st))) : Goes p e below F T (mkF m pc ls (.int y :: .int x :: st)) := by
  subst hp; exact Goes.fore (fun _ q => XS.iand X.here hx rfl hd rfl q) k
theorem gIor (X : Stand p l e R s m args below meth c T locs cells slots) (hx : p.tables.exec = Jvm.exec) {x y : Int32} (hd : decode c.code pc = .ok (.ior, 1))  (hp : pc + 1 = pc') (k : Goes p e below F T (mkF m pc' ls (.int (x ||| y) :: st))) : Goes p e below F T (mkF m pc ls (.int y :: .int x :: st)) := by
  subst hp; exact Goes.fore (fun _ q => XS.ior X.here hx rfl hd rfl q) k
theorem gIxor (X : Stand p l e R s m args below meth c T locs cells slots) (hx : p.tables.exec = Jvm.exec) {x y : Int32} (hd : decode c.code pc = .ok (.ixor, 1))  (hp : pc + 1 = pc') (k : Goes p e below F T (mkF m pc' ls (.int (x ^^^ y) :: st))) : Goes p e below F T (mkF m pc ls (.int y :: .int x :: st)) := by
  subst hp; exact Goes.fore (fun _ q => XS.ixor X.here hx rfl hd rfl q) k
theorem gIshl (X : Stand p l e R s m args below meth c T locs cells slots) (hx : p.tables.exec = Jvm.exec) {x y : Int32} (hd : decode c.code pc = .ok (.ishl, 1))  (hp : pc + 1 = pc') (k : Goes p e below F T (mkF m pc' ls (.int (x <<< (y &&& 31)) :: st))) : Goes p e below F T (mkF m pc ls (.int y :: .int x :: st)) := by
  subst hp; exact Goes.fore (fun _ q => XS.ishl X.here hx rfl hd rfl q) k
theorem gIshr (X : Stand p l e R s m args below meth c T locs cells slots) (hx : p.tables.exec = Jvm.exec) {x y : Int32} (hd : decode c.code pc = .ok (.ishr, 1))  (hp : pc + 1 = pc') (k : Goes p e below F T (mkF m pc' ls (.int (x >>> (y &&& 31)) :: st))) : Goes p e below F T (mkF m pc ls (.int y :: .int x :: st)) := by
  subst hp; exact Goes.fore (fun _ q => XS.ishr X.here hx rfl hd rfl q) k
theorem gIushr (X : Stand p l e R s m args below meth c T locs cells slots) (hx : p.tables.exec = Jvm.exec) {x y : Int32} (hd : decode c.code pc = .ok (.iushr, 1))  (hp : pc + 1 = pc') (k : Goes p e below F T (mkF m pc' ls (.int ((x.toUInt32 >>> (y &&& 31).toUInt32).toInt32) :: st))) : Goes p e below F T (mkF m pc ls (.int y :: .int x :: st)) := by
  subst hp; exact Goes.fore (fun _ q => XS.iushr X.here hx rfl hd rfl q) k
theorem gLadd (X : Stand p l e R s m args below meth c T locs cells slots) (hx : p.tables.exec = Jvm.exec) {x y : Int64} (hd : decode c.code pc = .ok (.ladd, 1))  (hp : pc + 1 = pc') (k : Goes p e below F T (mkF m pc' ls (.long (x + y) :: st))) : Goes p e below F T (mkF m pc ls (.long y :: .long x :: st)) := by
  subst hp; exact Goes.fore (fun _ q => XS.ladd X.here hx rfl hd rfl q) k
theorem gLsub (X : Stand p l e R s m args below meth c T locs cells slots) (hx : p.tables.exec = Jvm.exec) {x y : Int64} (hd : decode c.code pc = .ok (.lsub, 1))  (hp : pc + 1 = pc') (k : Goes p e below F T (mkF m pc' ls (.long (x - y) :: st))) : Goes p e below F T (mkF m pc ls (.long y :: .long x :: st)) := by
  subst hp; exact Goes.fore (fun _ q => XS.lsub X.here hx rfl hd rfl q) k
theorem gLmul (X : Stand p l e R s m args below meth c T locs cells slots) (hx : p.tables.exec = Jvm.exec) {x y : Int64} (hd : decode c.code pc = .ok (.lmul, 1))  (hp : pc + 1 = pc') (k : Goes p e below F T (mkF m pc' ls (.long (x * y) :: st))) : Goes p e below F T (mkF m pc ls (.long y :: .long x :: st)) := by
  subst hp; exact Goes.fore (fun _ q => XS.lmul X.here hx rfl hd rfl q) k
theorem gLand (X : Stand p l e R s m args below meth c T locs cells slots) (hx : p.tables.exec = Jvm.exec) {x y : Int64} (hd : decode c.code pc = .ok (.land, 1))  (hp : pc + 1 = pc') (k : Goes p e below F T (mkF m pc' ls (.long (x &&& y) :: st))) : Goes p e below F T (mkF m pc ls (.long y :: .long x :: st)) := by
  subst hp; exact Goes.fore (fun _ q => XS.land X.here hx rfl hd rfl q) k
theorem gLor (X : Stand p l e R s m args below meth c T locs cells slots) (hx : p.tables.exec = Jvm.exec) {x y : Int64} (hd : decode c.code pc = .ok (.lor, 1))  (hp : pc + 1 = pc') (k : Goes p e below F T (mkF m pc' ls (.long (x ||| y) :: st))) : Goes p e below F T (mkF m pc ls (.long y :: .long x :: st)) := by
  subst hp; exact Goes.fore (fun _ q => XS.lor X.here hx rfl hd rfl q) k
theorem gLxor (X : Stand p l e R s m args below meth c T locs cells slots) (hx : p.tables.exec = Jvm.exec) {x y : Int64} (hd : decode c.code pc = .ok (.lxor, 1))  (hp : pc + 1 = pc') (k : Goes p e below F T (mkF m pc' ls (.long (x ^^^ y) :: st))) : Goes p e below F T (mkF m pc ls (.long y :: .long x :: st)) := by
  subst hp; exact Goes.fore (fun _ q => XS.lxor X.here hx rfl hd rfl q) k
theorem gLshl (X : Stand p l e R s m args below meth c T locs cells slots) (hx : p.tables.exec = Jvm.exec) {x : Int64} {y : Int32} (hd : decode c.code pc = .ok (.lshl, 1))  (hp : pc + 1 = pc') (k : Goes p e below F T (mkF m pc' ls (.long (x <<< (y &&& 0x3f).toInt64) :: st))) : Goes p e below F T (mkF m pc ls (.int y :: .long x :: st)) := by
  subst hp; exact Goes.fore (fun _ q => XS.lshl X.here hx rfl hd rfl q) k
theorem gLshr (X : Stand p l e R s m args below meth c T locs cells slots) (hx : p.tables.exec = Jvm.exec) {x : Int64} {y : Int32} (hd : decode c.code pc = .ok (.lshr, 1))  (hp : pc + 1 = pc') (k : Goes p e below F T (mkF m pc' ls (.long (x >>> (y &&& 0x3f).toInt64) :: st))) : Goes p e below F T (mkF m pc ls (.int y :: .long x :: st)) := by
  subst hp; exact Goes.fore (fun _ q => XS.lshr X.here hx rfl hd rfl q) k
theorem gLushr (X : Stand p l e R s m args below meth c T locs cells slots) (hx : p.tables.exec = Jvm.exec) {x : Int64} {y : Int32} (hd : decode c.code pc = .ok (.lushr, 1))  (hp : pc + 1 = pc') (k : Goes p e below F T (mkF m pc' ls (.long ((x.toUInt64 >>> (y &&& 0x3f).toInt64.toUInt64).toInt64) :: st))) : Goes p e below F T (mkF m pc ls (.int y :: .long x :: st)) := by
  subst hp; exact Goes.fore (fun _ q => XS.lushr X.here hx rfl hd rfl q) k
theorem gIdiv (X : Stand p l e R s m args below meth c T locs cells slots) (hx : p.tables.exec = Jvm.exec) {x y : Int32} (hd : decode c.code pc = .ok (.idiv, 1)) (hy : y ≠ 0) (hp : pc + 1 = pc') (k : Goes p e below F T (mkF m pc' ls (.int (x / y) :: st))) : Goes p e below F T (mkF m pc ls (.int y :: .int x :: st)) := by
  subst hp; exact Goes.fore (fun _ q => XS.idiv X.here hx rfl hd rfl hy q) k
theorem gIrem (X : Stand p l e R s m args below meth c T locs cells slots) (hx : p.tables.exec = Jvm.exec) {x y : Int32} (hd : decode c.code pc = .ok (.irem, 1)) (hy : y ≠ 0) (hp : pc + 1 = pc') (k : Goes p e below F T (mkF m pc' ls (.int (x % y) :: st))) : Goes p e below F T (mkF m pc ls (.int y :: .int x :: st)) := by
  subst hp; exact Goes.fore (fun _ q => iremM X hx rfl hd rfl hy q) k
theorem gIneg (X : Stand p l e R s m args below meth c T locs cells slots) (hx : p.tables.exec = Jvm.exec) {x : Int32} (hd : decode c.code pc = .ok (.ineg, 1))  (hp : pc + 1 = pc') (k : Goes p e below F T (mkF m pc' ls (.int (-x) :: st))) : Goes p e below F T (mkF m pc ls (.int x :: st)) := by
  subst hp; exact Goes.fore (fun _ q => XS.ineg X.here hx rfl hd rfl q) k
theorem gLneg (X : Stand p l e R s m args below meth c T locs cells slots) (hx : p.tables.exec = Jvm.exec) {x : Int64} (hd : decode c.code pc = .ok (.lneg, 1))  (hp : pc + 1 = pc') (k : Goes p e below F T (mkF m pc' ls (.long (-x) :: st))) : Goes p e below F T (mkF m pc ls (.long x :: st)) := by
  subst hp; exact Goes.fore (fun _ q => XS.lneg X.here hx rfl hd rfl q) k
theorem gI2l (X : Stand p l e R s m args below meth c T locs cells slots) (hx : p.tables.exec = Jvm.exec) {x : Int32} (hd : decode c.code pc = .ok (.i2l, 1))  (hp : pc + 1 = pc') (k : Goes p e below F T (mkF m pc' ls (.long (x.toInt64) :: st))) : Goes p e below F T (mkF m pc ls (.int x :: st)) := by
  subst hp; exact Goes.fore (fun _ q => XS.i2l X.here hx rfl hd rfl q) k
theorem gL2i (X : Stand p l e R s m args below meth c T locs cells slots) (hx : p.tables.exec = Jvm.exec) {x : Int64} (hd : decode c.code pc = .ok (.l2i, 1))  (hp : pc + 1 = pc') (k : Goes p e below F T (mkF m pc' ls (.int (x.toInt32) :: st))) : Goes p e below F T (mkF m pc ls (.long x :: st)) := by
  subst hp; exact Goes.fore (fun _ q => XS.l2i X.here hx rfl hd rfl q) k
theorem gI2b (X : Stand p l e R s m args below meth c T locs cells slots) (hx : p.tables.exec = Jvm.exec) {x : Int32} (hd : decode c.code pc = .ok (.i2b, 1))  (hp : pc + 1 = pc') (k : Goes p e below F T (mkF m pc' ls (.int (x.toInt8.toInt32) :: st))) : Goes p e below F T (mkF m pc ls (.int x :: st)) := by
  subst hp; exact Goes.fore (fun _ q => XS.i2b X.here hx rfl hd rfl q) k
theorem gI2c (X : Stand p l e R s m args below meth c T locs cells slots) (hx : p.tables.exec = Jvm.exec) {x : Int32} (hd : decode c.code pc = .ok (.i2c, 1))  (hp : pc + 1 = pc') (k : Goes p e below F T (mkF m pc' ls (.int (x.toUInt32.toUInt16.toUInt32.toInt32) :: st))) : Goes p e below F T (mkF m pc ls (.int x :: st)) := by
  subst hp; exact Goes.fore (fun _ q => XS.i2c X.here hx rfl hd rfl q) k
theorem gI2s (X : Stand p l e R s m args below meth c T locs cells slots) (hx : p.tables.exec = Jvm.exec) {x : Int32} (hd : decode c.code pc = .ok (.i2s, 1))  (hp : pc + 1 = pc') (k : Goes p e below F T (mkF m pc' ls (.int (x.toInt16.toInt32) :: st))) : Goes p e below F T (mkF m pc ls (.int x :: st)) := by
  subst hp; exact Goes.fore (fun _ q => XS.i2s X.here hx rfl hd rfl q) k
theorem gLcmp (X : Stand p l e R s m args below meth c T locs cells slots) (hx : p.tables.exec = Jvm.exec) {x y : Int64} (hd : decode c.code pc = .ok (.lcmp, 1))  (hp : pc + 1 = pc') (k : Goes p e below F T (mkF m pc' ls (.int (lcmpW x y) :: st))) : Goes p e below F T (mkF m pc ls (.long y :: .long x :: st)) := by
  subst hp; exact Goes.fore (fun _ q => XS.lcmp X.here hx rfl hd rfl q) k
theorem gIinc (X : Stand p l e R s m args below meth c T locs cells slots) (hx : p.tables.exec = Jvm.exec) {k : Nat} {i : Int} {x v : Int32} {l' : Array Slot} (hd : decode c.code pc = .ok (.iinc k i, 3)) (hv : Int32.ofInt i = v) (hl : ls[k]? = some (.val (.int x))) (hl' : storeLocals ls k (.int (x + v)) = some l') (hp : pc + 3 = pc') (k : Goes p e below F T (mkF m pc' l' st)) : Goes p e below F T (mkF m pc ls st) := by
  subst hp; exact Goes.fore (fun _ q => XT.iincV X.here hx rfl v hd hv hl hl' q) k
theorem gDup (X : Stand p l e R s m args below meth c T locs cells slots) (hx : p.tables.exec = Jvm.exec) {v : Value} (hd : decode c.code pc = .ok (.dup, 1)) (hv : v.category = 1) (hp : pc + 1 = pc') (k : Goes p e below F T (mkF m pc' ls (v :: v :: st))) : Goes p e below F T (mkF m pc ls (v :: st)) := by
  subst hp; exact Goes.fore (fun _ q => XS.dup X.here hx rfl hd rfl hv q) k
theorem gPop (X : Stand p l e R s m args below meth c T locs cells slots) (hx : p.tables.exec = Jvm.exec) {v : Value} (hd : decode c.code pc = .ok (.pop, 1)) (hv : v.category = 1) (hp : pc + 1 = pc') (k : Goes p e below F T (mkF m pc' ls st)) : Goes p e below F T (mkF m pc ls (v :: st)) := by
  subst hp; exact Goes.fore (fun _ q => XS.pop X.here hx rfl hd rfl hv q) k
theorem gDupX1 (X : Stand p l e R s m args below meth c T locs cells slots) (hx : p.tables.exec = Jvm.exec) {v w : Value} (hd : decode c.code pc = .ok (.dup_x1, 1)) (hv : v.category = 1) (hw : w.category = 1) (hp : pc + 1 = pc') (k : Goes p e below F T (mkF m pc' ls (v :: w :: v :: st))) : Goes p e below F T (mkF m pc ls (v :: w :: st)) := by
  subst hp; exact Goes.fore (fun _ q => XS.dupX1 X.here hx rfl hd rfl hv hw q) k
theorem gDup2 (X : Stand p l e R s m args below meth c T locs cells slots) (hx : p.tables.exec = Jvm.exec) {v w : Value} (hd : decode c.code pc = .ok (.dup2, 1)) (hv : v.category = 1) (hw : w.category = 1) (hp : pc + 1 = pc') (k : Goes p e below F T (mkF m pc' ls (v :: w :: v :: w :: st))) : Goes p e below F T (mkF m pc ls (v :: w :: st)) := by
  subst hp; exact Goes.fore (fun _ q => XT.dup2 X.here hx rfl hd rfl hv hw q) k
theorem gGoto (X : Stand p l e R s m args below meth c T locs cells slots) (hx : p.tables.exec = Jvm.exec) {o : Int} (hd : decode c.code pc = .ok (.goto o, 3)) (ho : 0 ≤ (pc : Int) + o) (hp : ((pc : Int) + o).toNat = pc') (k : Goes p e below F T (mkF m pc' ls st)) : Goes p e below F T (mkF m pc ls st) := Goes.fore (fun _ q => XS.goto X.here hx rfl rfl hd ho hp q) k
theorem gIcmp (X : Stand p l e R s m args below meth c T locs cells slots) (hx : p.tables.exec = Jvm.exec) {cd : ClassFile.Cond} {o : Int} {x y : Int32} {pn : Nat} (hd : decode c.code pc = .ok (.if_icmp cd o, 3)) (ho : 0 ≤ (pc : Int) + o) (hp : ((pc : Int) + o).toNat = pc') (hn : pc + 3 = pn) (kY : if_icmp.holds cd x y = true → Goes p e below F T (mkF m pc' ls st)) (kN : if_icmp.holds cd x y = false → Goes p e below F T (mkF m pn ls st)) : Goes p e below F T (mkF m pc ls (.int y :: .int x :: st)) := by
  subst hn
  cases hb : if_icmp.holds cd x y
  · exact Goes.fore (fun _ q => XS.icmpNo X.here hx rfl hd rfl hb q) (kN hb)
  · exact Goes.fore (fun _ q => XS.icmpYes X.here hx rfl rfl hd rfl hb ho hp q) (kY hb)
theorem gIf (X : Stand p l e R s m args below meth c T locs cells slots) (hx : p.tables.exec = Jvm.exec) {cd : ClassFile.Cond} {o : Int} {x : Int32} {pn : Nat} (hd : decode c.code pc = .ok (.ifCond cd o, 3)) (ho : 0 ≤ (pc : Int) + o) (hp : ((pc : Int) + o).toNat = pc') (hn : pc + 3 = pn) (kY : ifCond.holds cd x = true → Goes p e below F T (mkF m pc' ls st)) (kN : ifCond.holds cd x = false → Goes p e below F T (mkF m pn ls st)) : Goes p e below F T (mkF m pc ls (.int x :: st)) := by
  subst hn
  cases hb : ifCond.holds cd x
  · exact Goes.fore (fun _ q => XS.ifNo X.here hx rfl hd rfl hb q) (kN hb)
  · exact Goes.fore (fun _ q => XS.ifYes X.here hx rfl rfl hd rfl hb ho hp q) (kY hb)
theorem gIcmpEq (X : Stand p l e R s m args below meth c T locs cells slots) (hx : p.tables.exec = Jvm.exec) {o : Int} {x y : Int32} {pn : Nat} (hd : decode c.code pc = .ok (.if_icmp .eq o, 3)) (ho : 0 ≤ (pc : Int) + o) (hp : ((pc : Int) + o).toNat = pc') (hn : pc + 3 = pn) (kY : x = y → Goes p e below F T (mkF m pc' ls st)) (kN : ¬ x = y → Goes p e below F T (mkF m pn ls st)) : Goes p e below F T (mkF m pc ls (.int y :: .int x :: st)) :=
  gIcmp X hx hd ho hp hn (fun q => kY (by simpa [if_icmp.holds, Int32.lt_iff_toInt_lt, Int32.le_iff_toInt_le] using q)) (fun q => kN (by simpa [if_icmp.holds, Int32.lt_iff_toInt_lt, Int32.le_iff_toInt_le] using q))
theorem gIfEq (X : Stand p l e R s m args below meth c T locs cells slots) (hx : p.tables.exec = Jvm.exec) {o : Int} {x : Int32} {pn : Nat} (hd : decode c.code pc = .ok (.ifCond .eq o, 3)) (ho : 0 ≤ (pc : Int) + o) (hp : ((pc : Int) + o).toNat = pc') (hn : pc + 3 = pn) (kY : x = 0 → Goes p e below F T (mkF m pc' ls st)) (kN : ¬ x = 0 → Goes p e below F T (mkF m pn ls st)) : Goes p e below F T (mkF m pc ls (.int x :: st)) :=
  gIf X hx hd ho hp hn (fun q => kY (by simpa [ifCond.holds, Int32.lt_iff_toInt_lt, Int32.le_iff_toInt_le] using q)) (fun q => kN (by simpa [ifCond.holds, Int32.lt_iff_toInt_lt, Int32.le_iff_toInt_le] using q))
theorem gIcmpNe (X : Stand p l e R s m args below meth c T locs cells slots) (hx : p.tables.exec = Jvm.exec) {o : Int} {x y : Int32} {pn : Nat} (hd : decode c.code pc = .ok (.if_icmp .ne o, 3)) (ho : 0 ≤ (pc : Int) + o) (hp : ((pc : Int) + o).toNat = pc') (hn : pc + 3 = pn) (kY : ¬ x = y → Goes p e below F T (mkF m pc' ls st)) (kN : x = y → Goes p e below F T (mkF m pn ls st)) : Goes p e below F T (mkF m pc ls (.int y :: .int x :: st)) :=
  gIcmp X hx hd ho hp hn (fun q => kY (by simpa [if_icmp.holds, Int32.lt_iff_toInt_lt, Int32.le_iff_toInt_le] using q)) (fun q => kN (by simpa [if_icmp.holds, Int32.lt_iff_toInt_lt, Int32.le_iff_toInt_le] using q))
theorem gIfNe (X : Stand p l e R s m args below meth c T locs cells slots) (hx : p.tables.exec = Jvm.exec) {o : Int} {x : Int32} {pn : Nat} (hd : decode c.code pc = .ok (.ifCond .ne o, 3)) (ho : 0 ≤ (pc : Int) + o) (hp : ((pc : Int) + o).toNat = pc') (hn : pc + 3 = pn) (kY : ¬ x = 0 → Goes p e below F T (mkF m pc' ls st)) (kN : x = 0 → Goes p e below F T (mkF m pn ls st)) : Goes p e below F T (mkF m pc ls (.int x :: st)) :=
  gIf X hx hd ho hp hn (fun q => kY (by simpa [ifCond.holds, Int32.lt_iff_toInt_lt, Int32.le_iff_toInt_le] using q)) (fun q => kN (by simpa [ifCond.holds, Int32.lt_iff_toInt_lt, Int32.le_iff_toInt_le] using q))
theorem gIcmpLt (X : Stand p l e R s m args below meth c T locs cells slots) (hx : p.tables.exec = Jvm.exec) {o : Int} {x y : Int32} {pn : Nat} (hd : decode c.code pc = .ok (.if_icmp .lt o, 3)) (ho : 0 ≤ (pc : Int) + o) (hp : ((pc : Int) + o).toNat = pc') (hn : pc + 3 = pn) (kY : x.toInt < y.toInt → Goes p e below F T (mkF m pc' ls st)) (kN : y.toInt ≤ x.toInt → Goes p e below F T (mkF m pn ls st)) : Goes p e below F T (mkF m pc ls (.int y :: .int x :: st)) :=
  gIcmp X hx hd ho hp hn (fun q => kY (by simpa [if_icmp.holds, Int32.lt_iff_toInt_lt, Int32.le_iff_toInt_le] using q)) (fun q => kN (by simpa [if_icmp.holds, Int32.lt_iff_toInt_lt, Int32.le_iff_toInt_le] using q))
theorem gIfLt (X : Stand p l e R s m args below meth c T locs cells slots) (hx : p.tables.exec = Jvm.exec) {o : Int} {x : Int32} {pn : Nat} (hd : decode c.code pc = .ok (.ifCond .lt o, 3)) (ho : 0 ≤ (pc : Int) + o) (hp : ((pc : Int) + o).toNat = pc') (hn : pc + 3 = pn) (kY : x.toInt < (0 : Int) → Goes p e below F T (mkF m pc' ls st)) (kN : (0 : Int) ≤ x.toInt → Goes p e below F T (mkF m pn ls st)) : Goes p e below F T (mkF m pc ls (.int x :: st)) :=
  gIf X hx hd ho hp hn (fun q => kY (by simpa [ifCond.holds, Int32.lt_iff_toInt_lt, Int32.le_iff_toInt_le] using q)) (fun q => kN (by simpa [ifCond.holds, Int32.lt_iff_toInt_lt, Int32.le_iff_toInt_le] using q))
theorem gIcmpGe (X : Stand p l e R s m args below meth c T locs cells slots) (hx : p.tables.exec = Jvm.exec) {o : Int} {x y : Int32} {pn : Nat} (hd : decode c.code pc = .ok (.if_icmp .ge o, 3)) (ho : 0 ≤ (pc : Int) + o) (hp : ((pc : Int) + o).toNat = pc') (hn : pc + 3 = pn) (kY : y.toInt ≤ x.toInt → Goes p e below F T (mkF m pc' ls st)) (kN : x.toInt < y.toInt → Goes p e below F T (mkF m pn ls st)) : Goes p e below F T (mkF m pc ls (.int y :: .int x :: st)) :=
  gIcmp X hx hd ho hp hn (fun q => kY (by simpa [if_icmp.holds, Int32.lt_iff_toInt_lt, Int32.le_iff_toInt_le] using q)) (fun q => kN (by simpa [if_icmp.holds, Int32.lt_iff_toInt_lt, Int32.le_iff_toInt_le] using q))
theorem gIfGe (X : Stand p l e R s m args below meth c T locs cells slots) (hx : p.tables.exec = Jvm.exec) {o : Int} {x : Int32} {pn : Nat} (hd : decode c.code pc = .ok (.ifCond .ge o, 3)) (ho : 0 ≤ (pc : Int) + o) (hp : ((pc : Int) + o).toNat = pc') (hn : pc + 3 = pn) (kY : (0 : Int) ≤ x.toInt → Goes p e below F T (mkF m pc' ls st)) (kN : x.toInt < (0 : Int) → Goes p e below F T (mkF m pn ls st)) : Goes p e below F T (mkF m pc ls (.int x :: st)) :=
  gIf X hx hd ho hp hn (fun q => kY (by simpa [ifCond.holds, Int32.lt_iff_toInt_lt, Int32.le_iff_toInt_le] using q)) (fun q => kN (by simpa [ifCond.holds, Int32.lt_iff_toInt_lt, Int32.le_iff_toInt_le] using q))
theorem gIcmpGt (X : Stand p l e R s m args below meth c T locs cells slots) (hx : p.tables.exec = Jvm.exec) {o : Int} {x y : Int32} {pn : Nat} (hd : decode c.code pc = .ok (.if_icmp .gt o, 3)) (ho : 0 ≤ (pc : Int) + o) (hp : ((pc : Int) + o).toNat = pc') (hn : pc + 3 = pn) (kY : y.toInt < x.toInt → Goes p e below F T (mkF m pc' ls st)) (kN : x.toInt ≤ y.toInt → Goes p e below F T (mkF m pn ls st)) : Goes p e below F T (mkF m pc ls (.int y :: .int x :: st)) :=
  gIcmp X hx hd ho hp hn (fun q => kY (by simpa [if_icmp.holds, Int32.lt_iff_toInt_lt, Int32.le_iff_toInt_le] using q)) (fun q => kN (by simpa [if_icmp.holds, Int32.lt_iff_toInt_lt, Int32.le_iff_toInt_le] using q))
theorem gIfGt (X : Stand p l e R s m args below meth c T locs cells slots) (hx : p.tables.exec = Jvm.exec) {o : Int} {x : Int32} {pn : Nat} (hd : decode c.code pc = .ok (.ifCond .gt o, 3)) (ho : 0 ≤ (pc : Int) + o) (hp : ((pc : Int) + o).toNat = pc') (hn : pc + 3 = pn) (kY : (0 : Int) < x.toInt → Goes p e below F T (mkF m pc' ls st)) (kN : x.toInt ≤ (0 : Int) → Goes p e below F T (mkF m pn ls st)) : Goes p e below F T (mkF m pc ls (.int x :: st)) :=
  gIf X hx hd ho hp hn (fun q => kY (by simpa [ifCond.holds, Int32.lt_iff_toInt_lt, Int32.le_iff_toInt_le] using q)) (fun q => kN (by simpa [ifCond.holds, Int32.lt_iff_toInt_lt, Int32.le_iff_toInt_le] using q))
theorem gIcmpLe (X : Stand p l e R s m args below meth c T locs cells slots) (hx : p.tables.exec = Jvm.exec) {o : Int} {x y : Int32} {pn : Nat} (hd : decode c.code pc = .ok (.if_icmp .le o, 3)) (ho : 0 ≤ (pc : Int) + o) (hp : ((pc : Int) + o).toNat = pc') (hn : pc + 3 = pn) (kY : x.toInt ≤ y.toInt → Goes p e below F T (mkF m pc' ls st)) (kN : y.toInt < x.toInt → Goes p e below F T (mkF m pn ls st)) : Goes p e below F T (mkF m pc ls (.int y :: .int x :: st)) :=
  gIcmp X hx hd ho hp hn (fun q => kY (by simpa [if_icmp.holds, Int32.lt_iff_toInt_lt, Int32.le_iff_toInt_le] using q)) (fun q => kN (by simpa [if_icmp.holds, Int32.lt_iff_toInt_lt, Int32.le_iff_toInt_le] using q))
theorem gIfLe (X : Stand p l e R s m args below meth c T locs cells slots) (hx : p.tables.exec = Jvm.exec) {o : Int} {x : Int32} {pn : Nat} (hd : decode c.code pc = .ok (.ifCond .le o, 3)) (ho : 0 ≤ (pc : Int) + o) (hp : ((pc : Int) + o).toNat = pc') (hn : pc + 3 = pn) (kY : x.toInt ≤ (0 : Int) → Goes p e below F T (mkF m pc' ls st)) (kN : (0 : Int) < x.toInt → Goes p e below F T (mkF m pn ls st)) : Goes p e below F T (mkF m pc ls (.int x :: st)) :=
  gIf X hx hd ho hp hn (fun q => kY (by simpa [ifCond.holds, Int32.lt_iff_toInt_lt, Int32.le_iff_toInt_le] using q)) (fun q => kN (by simpa [ifCond.holds, Int32.lt_iff_toInt_lt, Int32.le_iff_toInt_le] using q))
theorem gIcmpEqT (X : Stand p l e R s m args below meth c T locs cells slots) (hx : p.tables.exec = Jvm.exec) {o : Int} {x y : Int32} {pn : Nat} (hd : decode c.code pc = .ok (.if_icmp .eq o, 3)) (ho : 0 ≤ (pc : Int) + o) (hp : ((pc : Int) + o).toNat = pc') (hn : pc + 3 = pn) (kY : x.toInt = y.toInt → Goes p e below F T (mkF m pc' ls st)) (kN : ¬ x.toInt = y.toInt → Goes p e below F T (mkF m pn ls st)) : Goes p e below F T (mkF m pc ls (.int y :: .int x :: st)) :=
  gIcmpEq X hx hd ho hp hn (fun q => kY ((Int32.toInt_inj (x := x) (y := y)).mpr q)) (fun q => kN (fun z => q ((Int32.toInt_inj (x := x) (y := y)).mp z)))
theorem gIfEqT (X : Stand p l e R s m args below meth c T locs cells slots) (hx : p.tables.exec = Jvm.exec) {o : Int} {x : Int32} {pn : Nat} (hd : decode c.code pc = .ok (.ifCond .eq o, 3)) (ho : 0 ≤ (pc : Int) + o) (hp : ((pc : Int) + o).toNat = pc') (hn : pc + 3 = pn) (kY : x.toInt = (0 : Int) → Goes p e below F T (mkF m pc' ls st)) (kN : ¬ x.toInt = (0 : Int) → Goes p e below F T (mkF m pn ls st)) : Goes p e below F T (mkF m pc ls (.int x :: st)) :=
  gIfEq X hx hd ho hp hn (fun q => kY ((Int32.toInt_inj (x := x) (y := 0)).mpr q)) (fun q => kN (fun z => q ((Int32.toInt_inj (x := x) (y := 0)).mp z)))
theorem gIcmpNeT (X : Stand p l e R s m args below meth c T locs cells slots) (hx : p.tables.exec = Jvm.exec) {o : Int} {x y : Int32} {pn : Nat} (hd : decode c.code pc = .ok (.if_icmp .ne o, 3)) (ho : 0 ≤ (pc : Int) + o) (hp : ((pc : Int) + o).toNat = pc') (hn : pc + 3 = pn) (kY : ¬ x.toInt = y.toInt → Goes p e below F T (mkF m pc' ls st)) (kN : x.toInt = y.toInt → Goes p e below F T (mkF m pn ls st)) : Goes p e below F T (mkF m pc ls (.int y :: .int x :: st)) :=
  gIcmpNe X hx hd ho hp hn (fun q => kY (fun z => q ((Int32.toInt_inj (x := x) (y := y)).mp z))) (fun q => kN ((Int32.toInt_inj (x := x) (y := y)).mpr q))
theorem gIfNeT (X : Stand p l e R s m args below meth c T locs cells slots) (hx : p.tables.exec = Jvm.exec) {o : Int} {x : Int32} {pn : Nat} (hd : decode c.code pc = .ok (.ifCond .ne o, 3)) (ho : 0 ≤ (pc : Int) + o) (hp : ((pc : Int) + o).toNat = pc') (hn : pc + 3 = pn) (kY : ¬ x.toInt = (0 : Int) → Goes p e below F T (mkF m pc' ls st)) (kN : x.toInt = (0 : Int) → Goes p e below F T (mkF m pn ls st)) : Goes p e below F T (mkF m pc ls (.int x :: st)) :=
  gIfNe X hx hd ho hp hn (fun q => kY (fun z => q ((Int32.toInt_inj (x := x) (y := 0)).mp z))) (fun q => kN ((Int32.toInt_inj (x := x) (y := 0)).mpr q))
theorem gAcmp (X : Stand p l e R s m args below meth c T locs cells slots) (hx : p.tables.exec = Jvm.exec) {cd : ClassFile.ACond} {o : Int} {x y : Value} {pn : Nat} (hd : decode c.code pc = .ok (.if_acmp cd o, 3)) (h1 : x.isRef = true) (h2 : y.isRef = true) (ho : 0 ≤ (pc : Int) + o) (hp : ((pc : Int) + o).toNat = pc') (hn : pc + 3 = pn) (kS : x = y → Goes p e below F T (mkF m (match cd with | .eq => pc' | .ne => pn) ls st)) (kD : ¬ x = y → Goes p e below F T (mkF m (match cd with | .eq => pn | .ne => pc') ls st)) : Goes p e below F T (mkF m pc ls (y :: x :: st)) := by
  subst hn hp
  by_cases q : x = y
  · refine Goes.fore (fun _ k => acmp X hx rfl h1 h2 (same := true) rfl hd rfl (decide_eq_true q) ho rfl k) ?_
    have := kS q; cases cd <;> simpa [acV] using this
  · refine Goes.fore (fun _ k => acmp X hx rfl h1 h2 (same := false) rfl hd rfl (decide_eq_false q) ho rfl k) ?_
    have := kD q; cases cd <;> simpa [acV] using this
theorem gAcmpEq (X : Stand p l e R s m args below meth c T locs cells slots) (hx : p.tables.exec = Jvm.exec) {o : Int} {x y : Value} {pn : Nat} (hd : decode c.code pc = .ok (.if_acmp .eq o, 3)) (h1 : x.isRef = true) (h2 : y.isRef = true) (ho : 0 ≤ (pc : Int) + o) (hp : ((pc : Int) + o).toNat = pc') (hn : pc + 3 = pn) (kY : x = y → Goes p e below F T (mkF m pc' ls st)) (kN : ¬ x = y → Goes p e below F T (mkF m pn ls st)) : Goes p e below F T (mkF m pc ls (y :: x :: st)) := gAcmp X hx hd h1 h2 ho hp hn kY kN
theorem gAcmpNe (X : Stand p l e R s m args below meth c T locs cells slots) (hx : p.tables.exec = Jvm.exec) {o : Int} {x y : Value} {pn : Nat} (hd : decode c.code pc = .ok (.if_acmp .ne o, 3)) (h1 : x.isRef = true) (h2 : y.isRef = true) (ho : 0 ≤ (pc : Int) + o) (hp : ((pc : Int) + o).toNat = pc') (hn : pc + 3 = pn) (kY : ¬ x = y → Goes p e below F T (mkF m pc' ls st)) (kN : x = y → Goes p e below F T (mkF m pn ls st)) : Goes p e below F T (mkF m pc ls (y :: x :: st)) := gAcmp X hx hd h1 h2 ho hp hn kN kY
theorem gIfnullZ (X : Stand p l e R s m args below meth c T locs cells slots) (hx : p.tables.exec = Jvm.exec) {o : Int} (hd : decode c.code pc = .ok (.ifnull o, 3)) (ho : 0 ≤ (pc : Int) + o) (hp : ((pc : Int) + o).toNat = pc') (k : Goes p e below F T (mkF m pc' ls st)) : Goes p e below F T (mkF m pc ls (.null :: st)) := Goes.fore (fun _ q => XS.ifnullYes X.here hx rfl rfl hd rfl ho hp q) k
theorem gIfnullR (X : Stand p l e R s m args below meth c T locs cells slots) (hx : p.tables.exec = Jvm.exec) {o : Int} {b : Addr} (hd : decode c.code pc = .ok (.ifnull o, 3)) (hp : pc + 3 = pc') (k : Goes p e below F T (mkF m pc' ls st)) : Goes p e below F T (mkF m pc ls (.ref b :: st)) := by
  subst hp; exact Goes.fore (fun _ q => XS.ifnullNo X.here hx rfl hd rfl q) k
theorem gIfnonnullZ (X : Stand p l e R s m args below meth c T locs cells slots) (hx : p.tables.exec = Jvm.exec) {o : Int} (hd : decode c.code pc = .ok (.ifnonnull o, 3)) (hp : pc + 3 = pc') (k : Goes p e below F T (mkF m pc' ls st)) : Goes p e below F T (mkF m pc ls (.null :: st)) := by
  subst hp; exact Goes.fore (fun _ q => XS.ifnonnullNo X.here hx rfl hd rfl q) k
theorem gIfnonnullR (X : Stand p l e R s m args below meth c T locs cells slots) (hx : p.tables.exec = Jvm.exec) {o : Int} {b : Addr} (hd : decode c.code pc = .ok (.ifnonnull o, 3)) (ho : 0 ≤ (pc : Int) + o) (hp : ((pc : Int) + o).toNat = pc') (k : Goes p e below F T (mkF m pc' ls st)) : Goes p e below F T (mkF m pc ls (.ref b :: st)) := Goes.fore (fun _ q => XS.ifnonnullYes X.here hx rfl rfl hd rfl ho hp q) k
theorem gRet0 {v : Option Value} (X : Stand p l e R s m args below meth c T locs cells slots) (hx : p.tables.exec = Jvm.exec) (hlk : meth.locks = false) (hv : meth.sig.returnType = none → v = none) (hk : cells ≤ kc) (hs : slots ≤ ks) (hq : Q v T.heap locs) {g : JFrame}
    (k : ∀ fs, (∀ (f : JFrame) (acts : List Action), f.method = m → f.locked = none → f.entered = [] → (doReturn e (T.setTop f) acts v).1 = T.setFrames fs) → Steps p.tables e below (T.setTop g) (T.setFrames fs)) : Goes p e below (FinN s kc ks Q) T g := by
  obtain ⟨fs, hr, hrun, hended, hW, hsame⟩ := X.leave hv hlk
  exact ⟨_, _, k fs hr, hrun, hended, _, _, rfl, hq, ⟨_, rfl⟩, hW, hsame.mono hk hs⟩
theorem gRetV (X : Stand p l e R s m args below meth c T locs cells slots) (hx : p.tables.exec = Jvm.exec) (hlk : meth.locks = false) (hret : meth.sig.returnType = none) (hd : decode c.code pc = .ok (.return_, 1)) (hk : cells ≤ kc) (hs : slots ≤ ks) (hq : Q none T.heap locs) : Goes p e below (FinN s kc ks Q) T (mkF m pc ls []) :=
  gRet0 X hx hlk (fun _ => rfl) hk hs hq fun fs hr => X.returnOut hx hret hd hr
theorem gRetN (X : Stand p l e R s m args below meth c T locs cells slots) (hx : p.tables.exec = Jvm.exec) (hlk : meth.locks = false) {t : FieldType} (hret : meth.sig.returnType = some t) (ht : t = .boolean ∨ t = .byte ∨ t = .char ∨ t = .short) {z w : Int32} (hd : decode c.code pc = .ok (.ireturn, 1)) (hw : nar t z = w) (hk : cells ≤ kc) (hs : slots ≤ ks) (hq : Q (some (.int w)) T.heap locs) : Goes p e below (FinN s kc ks Q) T (mkF m pc ls (.int z :: st)) := by
  subst hw
  exact gRet0 X hx hlk (fun h => by rw [hret] at h; cases h) hk hs hq fun fs hr => retN X hx hret ht hd hr
theorem gRetI (X : Stand p l e R s m args below meth c T locs cells slots) (hx : p.tables.exec = Jvm.exec) (hlk : meth.locks = false) (hret : meth.sig.returnType = some .int) {z : Int32} (hd : decode c.code pc = .ok (.ireturn, 1)) (hk : cells ≤ kc) (hs : slots ≤ ks) (hq : Q (some (.int z)) T.heap locs) : Goes p e below (FinN s kc ks Q) T (mkF m pc ls (.int z :: st)) :=
  gRet0 X hx hlk (fun h => by rw [hret] at h; cases h) hk hs hq fun fs hr => retOut X hx hret rfl (Or.inl ⟨rfl, Or.inl rfl, z, rfl⟩) hd hr
theorem gRetJ (X : Stand p l e R s m args below meth c T locs cells slots) (hx : p.tables.exec = Jvm.exec) (hlk : meth.locks = false) (hret : meth.sig.returnType = some .long) {z : Int64} (hd : decode c.code pc = .ok (.lreturn, 1)) (hk : cells ≤ kc) (hs : slots ≤ ks) (hq : Q (some (.long z)) T.heap locs) : Goes p e below (FinN s kc ks Q) T (mkF m pc ls (.long z :: st)) :=
  gRet0 X hx hlk (fun h => by rw [hret] at h; cases h) hk hs hq fun fs hr => retOut X hx hret rfl (Or.inr (Or.inl ⟨rfl, rfl, z, rfl⟩)) hd hr
theorem gRetA (X : Stand p l e R s m args below meth c T locs cells slots) (hx : p.tables.exec = Jvm.exec) (hlk : meth.locks = false) {t : FieldType} (hret : meth.sig.returnType = some t) (ht : t.isReference = true) {v : Value} (hv : v.isRef = true) (hd : decode c.code pc = .ok (.areturn, 1)) (hk : cells ≤ kc) (hs : slots ≤ ks) (hq : Q (some v) T.heap locs) : Goes p e below (FinN s kc ks Q) T (mkF m pc ls (v :: st)) :=
  gRet0 X hx hlk (fun h => by rw [hret] at h; cases h) hk hs hq fun fs hr => retOut X hx hret (by cases t <;> first | rfl | cases ht) (Or.inr (Or.inr (Or.inr (Or.inr ⟨rfl, ht, hv⟩)))) hd hr
theorem gGetS (X : Stand p l e R s m args below meth c T locs cells slots) (hx : p.tables.exec = Jvm.exec) (hZ : Z.Warmed39 s.vm) {own R0 O n d : String} {i : Nat} (hown : s.vm.findClass own = some m.cls) (w : (Jvm.Cond.fieldLink own i R0 n d).before a0 Z = true) (via : Via Z R0 O n d) (eT : T.heap = h) {v : Value} (Fa : Sta Z h O n d v) (hd : decode c.code pc = .ok (.getstatic i, 3)) (hp : pc + 3 = pc')
    (k : ∀ T', Stand p l e R s m args below meth c T' locs cells slots → T'.heap = h → Goes p e below F T' (mkF m pc' ls (v :: st))) : Goes p e below F T (mkF m pc ls st) := by
  subst hp
  obtain ⟨T', X', e', st'⟩ := getS X hx hZ (host := "") hown w via eT Fa (g := mkF m pc ls st) rfl hd
  exact Goes.fore st' (k T' X' e')
theorem gGetF (X : Stand p l e R s m args below meth c T locs cells slots) (hx : p.tables.exec = Jvm.exec) (hZ : Z.Warmed39 s.vm) {own R0 O n d : String} {i : Nat} (hown : s.vm.findClass own = some m.cls) (w : (Jvm.Cond.fieldLink own i R0 n d).before a0 Z = true) (via : Via Z R0 O n d) (eT : T.heap = h) {a : Addr} {v : Value} (Fa : Fld Z h a O n d v) (hd : decode c.code pc = .ok (.getfield i, 3)) (hp : pc + 3 = pc')
    (k : ∀ T', Stand p l e R s m args below meth c T' locs cells slots → T'.heap = h → Goes p e below F T' (mkF m pc' ls (v :: st))) : Goes p e below F T (mkF m pc ls (.ref a :: st)) := by
  subst hp
  obtain ⟨T', X', e', st'⟩ := getF X hx hZ (host := "") hown (Or.inl w) via eT Fa (g := mkF m pc ls (.ref a :: st)) rfl rfl hd
  exact Goes.fore st' (k T' X' e')
theorem gCallS (X : Stand p l e R s m args below meth c T locs cells slots) (hx : p.tables.exec = Jvm.exec) (hZ : Z.Warmed39 s.vm) {y : MethodName} {bytes : ByteArray} {maxL : Nat} {ret : Option FieldType} {rm : Room} {own : String} {i : Nat} {Qc : Option Value → Heap → List Loc → Prop} (hown : s.vm.findClass own = some m.cls) (eT : T.heap = h) (hml : ls.size = c.maxLocals)
    (w1 : (Jvm.Cond.methodLink own i y).before a0 Z = true) (w2 : (Jvm.Cond.static y).before a0 Z = true) (w3 : (Jvm.Cond.initialized y.cls).before a0 Z = true) (w4 : (Jvm.Cond.code y bytes maxL ret).before a0 Z = true) (hy : y.cls ≠ "java/lang/invoke/MethodHandle" ∧ y.cls ≠ "java/lang/invoke/VarHandle")
    {argsL : List Value} {stk : List Value} (hC : Ctr l Z y bytes maxL ret [] rm argsL.toArray h Qc) (hlen : ∀ sig, parseMethodDescriptor y.desc = some sig → argsL.length = sig.parameters.length) (hd : decode c.code pc = .ok (.invokestatic i, 3)) (hp : pc + 3 = pc') (hst : stk = argsL.reverse ++ st)
    (hf : rm.frames + 1 ≤ R.frames) {W : Nat} (hW : (st.map fun v => v.category).sum ≤ W) (hlo : W + (maxL + 11) + rm.locals ≤ R.locals) (hce : cells + rm.cells ≤ R.cells) (hsl : slots + rm.slots ≤ R.slots)
    (k : ∀ T' v L, Stand p l e R s m args below meth c T' (locs ++ L) (cells + rm.cells) (slots + rm.slots) → Qc v T'.heap L → Goes p e below F T' (mkF m pc' ls (v.toList ++ st))) : Goes p e below F T (mkF m pc ls stk) := by
  subst hp hst
  obtain ⟨v, _, ⟨T', L', k', n'⟩, -, X', ⟨Lc, hQ, l1, y1, z1⟩, st'⟩ := Jvm.LawKit.callS X hx (y := y) hown (mvT hZ w1) (mvT hZ w2) (mvT hZ w3) (mvT hZ w4) hy (backOf (W := W) hC hZ w4 w3 hf hlo) (g := mkF m pc ls (argsL.reverse ++ st)) rfl hml (argsL := argsL) (rest := st) hlen rfl (by show 2 * 0 + _ ≤ _; omega) hd (fun _ _ => ⟨rfl, eT, hce, hsl⟩)
  dsimp only [Pt.U, Pt.locs, Pt.cells, Pt.slots] at X' l1 y1 z1 st' hQ
  subst l1 y1 z1
  exact Goes.fore st' (k T' v Lc X' hQ)
theorem gCallSJ (X : Stand p l e R s m args below meth c T locs cells slots) (hx : p.tables.exec = Jvm.exec) (hZ : Z.Warmed39 s.vm) {y : MethodName} {bytes : ByteArray} {maxL : Nat} {ret : Option FieldType} {rm : Room} {own : String} {i : Nat} {w : Value} (hown : s.vm.findClass own = some m.cls) (eT : T.heap = h) (hml : ls.size = c.maxLocals)
    (w1 : (Jvm.Cond.methodLink own i y).before a0 Z = true) (w2 : (Jvm.Cond.static y).before a0 Z = true) (w3 : (Jvm.Cond.initialized y.cls).before a0 Z = true) (w4 : (Jvm.Cond.code y bytes maxL ret).before a0 Z = true) (hy : y.cls ≠ "java/lang/invoke/MethodHandle" ∧ y.cls ≠ "java/lang/invoke/VarHandle")
    {argsL : List Value} {stk : List Value} (hC : Ctr l Z y bytes maxL ret [] rm argsL.toArray h (Just h w)) (hlen : ∀ sig, parseMethodDescriptor y.desc = some sig → argsL.length = sig.parameters.length) (hd : decode c.code pc = .ok (.invokestatic i, 3)) (hp : pc + 3 = pc') (hst : stk = argsL.reverse ++ st)
    (h0c : rm.cells = 0) (h0s : rm.slots = 0) (hf : rm.frames + 1 ≤ R.frames) {W : Nat} (hW : (st.map fun v => v.category).sum ≤ W) (hlo : W + (maxL + 11) + rm.locals ≤ R.locals) (hce : cells + rm.cells ≤ R.cells) (hsl : slots + rm.slots ≤ R.slots)
    (k : ∀ T', Stand p l e R s m args below meth c T' locs cells slots → T'.heap = h → Goes p e below F T' (mkF m pc' ls (w :: st))) : Goes p e below F T (mkF m pc ls stk) := by
  refine gCallS X hx hZ hown eT hml w1 w2 w3 w4 hy hC hlen hd hp hst hf hW hlo hce hsl ?_
  rintro T' v L X' ⟨rfl, e', rfl⟩
  rw [List.append_nil, h0c, h0s] at X'
  exact k T' X' e'
theorem gCallV (X : Stand p l e R s m args below meth c T locs cells slots) (hx : p.tables.exec = Jvm.exec) (hZ : Z.Warmed39 s.vm) {y : MethodName} {bytes : ByteArray} {maxL : Nat} {ret : Option FieldType} {rm : Room} {own : String} {i : Nat} {Qc : Option Value → Heap → List Loc → Prop} {C : String} {a : Addr} (hown : s.vm.findClass own = some m.cls) (eT : T.heap = h) (hml : ls.size = c.maxLocals) (E : Exa Z h a C)
    (w1 : (Jvm.Cond.methodLink own i y).before a0 Z = true) (w2 : (Jvm.Cond.declares y).before a0 Z = true) (w5 : (Jvm.Cond.selects C y y).before a0 Z = true) (w6 : (Jvm.Cond.instanceMethod y).before a0 Z = true) (w3 : (Jvm.Cond.initialized y.cls).before a0 Z = true) (w4 : (Jvm.Cond.code y bytes maxL ret).before a0 Z = true) (hy : y.cls ≠ "java/lang/invoke/MethodHandle" ∧ y.cls ≠ "java/lang/invoke/VarHandle")
    {argsL : List Value} {stk : List Value} (hC : Ctr l Z y bytes maxL ret [] rm (.ref a :: argsL).toArray h Qc) (hlen : ∀ sig, parseMethodDescriptor y.desc = some sig → argsL.length = sig.parameters.length) (hd : decode c.code pc = .ok (.invokevirtual i, 3)) (hp : pc + 3 = pc') (hst : stk = argsL.reverse ++ .ref a :: st)
    (hf : rm.frames + 1 ≤ R.frames) {W : Nat} (hW : (st.map fun v => v.category).sum ≤ W) (hlo : W + (maxL + 11) + rm.locals ≤ R.locals) (hce : cells + rm.cells ≤ R.cells) (hsl : slots + rm.slots ≤ R.slots)
    (k : ∀ T' v L, Stand p l e R s m args below meth c T' (locs ++ L) (cells + rm.cells) (slots + rm.slots) → Qc v T'.heap L → Goes p e below F T' (mkF m pc' ls (v.toList ++ st))) : Goes p e below F T (mkF m pc ls stk) := by
  subst hp hst
  obtain ⟨cq, kq, qa, qb, qc⟩ := isOf hZ eT E
  obtain ⟨v, _, ⟨T', L', k', n'⟩, -, X', ⟨Lc, hQ, l1, y1, z1⟩, st'⟩ := X.virtualBack hx (y := y) (z := y) hown (mvT hZ w1) (mvT hZ w2) (notFace_of_selects (args := #[]) (mvT hZ w5)) (mvT hZ w5) (mvT hZ w6) hy (backOf (W := W) hC hZ w4 w3 hf hlo) qa qc (g := mkF m pc ls (argsL.reverse ++ .ref a :: st)) rfl hml (Steps.refl _) (argsL := argsL) (rest := st) hlen rfl (by show 2 * 0 + _ ≤ _; omega) hd (fun _ _ => ⟨rfl, eT, hce, hsl⟩)
  dsimp only [Pt.U, Pt.locs, Pt.cells, Pt.slots] at X' l1 y1 z1 st' hQ
  subst l1 y1 z1
  exact Goes.tr st' (k T' v Lc X' hQ)
theorem gCallVJ (X : Stand p l e R s m args below meth c T locs cells slots) (hx : p.tables.exec = Jvm.exec) (hZ : Z.Warmed39 s.vm) {y : MethodName} {bytes : ByteArray} {maxL : Nat} {ret : Option FieldType} {rm : Room} {own : String} {i : Nat} {w : Value} {C : String} {a : Addr} (hown : s.vm.findClass own = some m.cls) (eT : T.heap = h) (hml : ls.size = c.maxLocals) (E : Exa Z h a C)
    (w1 : (Jvm.Cond.methodLink own i y).before a0 Z = true) (w2 : (Jvm.Cond.declares y).before a0 Z = true) (w5 : (Jvm.Cond.selects C y y).before a0 Z = true) (w6 : (Jvm.Cond.instanceMethod y).before a0 Z = true) (w3 : (Jvm.Cond.initialized y.cls).before a0 Z = true) (w4 : (Jvm.Cond.code y bytes maxL ret).before a0 Z = true) (hy : y.cls ≠ "java/lang/invoke/MethodHandle" ∧ y.cls ≠ "java/lang/invoke/VarHandle")
    {argsL : List Value} {stk : List Value} (hC : Ctr l Z y bytes maxL ret [] rm (.ref a :: argsL).toArray h (Just h w)) (hlen : ∀ sig, parseMethodDescriptor y.desc = some sig → argsL.length = sig.parameters.length) (hd : decode c.code pc = .ok (.invokevirtual i, 3)) (hp : pc + 3 = pc') (hst : stk = argsL.reverse ++ .ref a :: st)
    (h0c : rm.cells = 0) (h0s : rm.slots = 0) (hf : rm.frames + 1 ≤ R.frames) {W : Nat} (hW : (st.map fun v => v.category).sum ≤ W) (hlo : W + (maxL + 11) + rm.locals ≤ R.locals) (hce : cells + rm.cells ≤ R.cells) (hsl : slots + rm.slots ≤ R.slots)
    (k : ∀ T', Stand p l e R s m args below meth c T' locs cells slots → T'.heap = h → Goes p e below F T' (mkF m pc' ls (w :: st))) : Goes p e below F T (mkF m pc ls stk) := by
  refine gCallV X hx hZ hown eT hml E w1 w2 w5 w6 w3 w4 hy hC hlen hd hp hst hf hW hlo hce hsl ?_
  rintro T' v L X' ⟨rfl, e', rfl⟩
  rw [List.append_nil, h0c, h0s] at X'
  exact k T' X' e'
theorem gLIfEq (X : Stand p l e R s m args below meth c T locs cells slots) (hx : p.tables.exec = Jvm.exec) {o : Int} {x y : Int64} {pn : Nat} (hd : decode c.code pc = .ok (.ifCond .eq o, 3)) (ho : 0 ≤ (pc : Int) + o) (hp : ((pc : Int) + o).toNat = pc') (hn : pc + 3 = pn) (kY : x = y → Goes p e below F T (mkF m pc' ls st)) (kN : ¬ x = y → Goes p e below F T (mkF m pn ls st)) : Goes p e below F T (mkF m pc ls (.int (lcmpW x y) :: st)) := by
  have z := lw_eq x y
  refine gIf X hx hd ho hp hn (fun q => kY ?_) (fun q => kN ?_) <;> simp only [ifCond.holds, decide_eq_true_eq, decide_eq_false_iff_not, beq_iff_eq, bne_iff_ne, Int32.not_lt, Int32.not_le, Int32.lt_iff_toInt_lt, Int32.le_iff_toInt_le, Int64.lt_iff_toInt_lt, ← Int32.toInt_inj, beq_eq_false_iff_ne, bne_eq_false_iff_eq, ne_eq] at q z ⊢ <;> first | exact z.mp q | exact fun k => q (z.mpr k) | omega
theorem gLIfNe (X : Stand p l e R s m args below meth c T locs cells slots) (hx : p.tables.exec = Jvm.exec) {o : Int} {x y : Int64} {pn : Nat} (hd : decode c.code pc = .ok (.ifCond .ne o, 3)) (ho : 0 ≤ (pc : Int) + o) (hp : ((pc : Int) + o).toNat = pc') (hn : pc + 3 = pn) (kY : ¬ x = y → Goes p e below F T (mkF m pc' ls st)) (kN : x = y → Goes p e below F T (mkF m pn ls st)) : Goes p e below F T (mkF m pc ls (.int (lcmpW x y) :: st)) := by
  have z := lw_eq x y
  refine gIf X hx hd ho hp hn (fun q => kY ?_) (fun q => kN ?_) <;> simp only [ifCond.holds, decide_eq_true_eq, decide_eq_false_iff_not, beq_iff_eq, bne_iff_ne, Int32.not_lt, Int32.not_le, Int32.lt_iff_toInt_lt, Int32.le_iff_toInt_le, Int64.lt_iff_toInt_lt, ← Int32.toInt_inj, beq_eq_false_iff_ne, bne_eq_false_iff_eq, ne_eq] at q z ⊢ <;> first | exact z.mp q | exact fun k => q (z.mpr k) | omega
theorem gLIfLt (X : Stand p l e R s m args below meth c T locs cells slots) (hx : p.tables.exec = Jvm.exec) {o : Int} {x y : Int64} {pn : Nat} (hd : decode c.code pc = .ok (.ifCond .lt o, 3)) (ho : 0 ≤ (pc : Int) + o) (hp : ((pc : Int) + o).toNat = pc') (hn : pc + 3 = pn) (kY : x.toInt < y.toInt → Goes p e below F T (mkF m pc' ls st)) (kN : y.toInt ≤ x.toInt → Goes p e below F T (mkF m pn ls st)) : Goes p e below F T (mkF m pc ls (.int (lcmpW x y) :: st)) := by
  have z := lw_lt x y
  refine gIf X hx hd ho hp hn (fun q => kY ?_) (fun q => kN ?_) <;> simp only [ifCond.holds, decide_eq_true_eq, decide_eq_false_iff_not, beq_iff_eq, bne_iff_ne, Int32.not_lt, Int32.not_le, Int32.lt_iff_toInt_lt, Int32.le_iff_toInt_le, Int64.lt_iff_toInt_lt, ← Int32.toInt_inj, beq_eq_false_iff_ne, bne_eq_false_iff_eq, ne_eq] at q z ⊢ <;> first | exact z.mp q | exact fun k => q (z.mpr k) | omega
theorem gLIfGe (X : Stand p l e R s m args below meth c T locs cells slots) (hx : p.tables.exec = Jvm.exec) {o : Int} {x y : Int64} {pn : Nat} (hd : decode c.code pc = .ok (.ifCond .ge o, 3)) (ho : 0 ≤ (pc : Int) + o) (hp : ((pc : Int) + o).toNat = pc') (hn : pc + 3 = pn) (kY : y.toInt ≤ x.toInt → Goes p e below F T (mkF m pc' ls st)) (kN : x.toInt < y.toInt → Goes p e below F T (mkF m pn ls st)) : Goes p e below F T (mkF m pc ls (.int (lcmpW x y) :: st)) := by
  have z := lw_lt x y
  refine gIf X hx hd ho hp hn (fun q => kY ?_) (fun q => kN ?_) <;> simp only [ifCond.holds, decide_eq_true_eq, decide_eq_false_iff_not, beq_iff_eq, bne_iff_ne, Int32.not_lt, Int32.not_le, Int32.lt_iff_toInt_lt, Int32.le_iff_toInt_le, Int64.lt_iff_toInt_lt, ← Int32.toInt_inj, beq_eq_false_iff_ne, bne_eq_false_iff_eq, ne_eq] at q z ⊢ <;> first | exact z.mp q | exact fun k => q (z.mpr k) | omega
theorem gLIfGt (X : Stand p l e R s m args below meth c T locs cells slots) (hx : p.tables.exec = Jvm.exec) {o : Int} {x y : Int64} {pn : Nat} (hd : decode c.code pc = .ok (.ifCond .gt o, 3)) (ho : 0 ≤ (pc : Int) + o) (hp : ((pc : Int) + o).toNat = pc') (hn : pc + 3 = pn) (kY : y.toInt < x.toInt → Goes p e below F T (mkF m pc' ls st)) (kN : x.toInt ≤ y.toInt → Goes p e below F T (mkF m pn ls st)) : Goes p e below F T (mkF m pc ls (.int (lcmpW x y) :: st)) := by
  have z := lw_gt x y
  refine gIf X hx hd ho hp hn (fun q => kY ?_) (fun q => kN ?_) <;> simp only [ifCond.holds, decide_eq_true_eq, decide_eq_false_iff_not, beq_iff_eq, bne_iff_ne, Int32.not_lt, Int32.not_le, Int32.lt_iff_toInt_lt, Int32.le_iff_toInt_le, Int64.lt_iff_toInt_lt, ← Int32.toInt_inj, beq_eq_false_iff_ne, bne_eq_false_iff_eq, ne_eq] at q z ⊢ <;> first | exact z.mp q | exact fun k => q (z.mpr k) | omega
theorem gLIfLe (X : Stand p l e R s m args below meth c T locs cells slots) (hx : p.tables.exec = Jvm.exec) {o : Int} {x y : Int64} {pn : Nat} (hd : decode c.code pc = .ok (.ifCond .le o, 3)) (ho : 0 ≤ (pc : Int) + o) (hp : ((pc : Int) + o).toNat = pc') (hn : pc + 3 = pn) (kY : x.toInt ≤ y.toInt → Goes p e below F T (mkF m pc' ls st)) (kN : y.toInt < x.toInt → Goes p e below F T (mkF m pn ls st)) : Goes p e below F T (mkF m pc ls (.int (lcmpW x y) :: st)) := by
  have z := lw_gt x y
  refine gIf X hx hd ho hp hn (fun q => kY ?_) (fun q => kN ?_) <;> simp only [ifCond.holds, decide_eq_true_eq, decide_eq_false_iff_not, beq_iff_eq, bne_iff_ne, Int32.not_lt, Int32.not_le, Int32.lt_iff_toInt_lt, Int32.le_iff_toInt_le, Int64.lt_iff_toInt_lt, ← Int32.toInt_inj, beq_eq_false_iff_ne, bne_eq_false_iff_eq, ne_eq] at q z ⊢ <;> first | exact z.mp q | exact fun k => q (z.mpr k) | omega
theorem gNew (X : Stand p l e R s m args below meth c T locs cells slots) (hx : p.tables.exec = Jvm.exec) (hZ : Z.Warmed39 s.vm) {own C : String} {i n : Nat} (hown : s.vm.findClass own = some m.cls) (w : (Jvm.Cond.classLink own i C).before a0 Z = true) (wi : (Jvm.Cond.instantiable C n).before a0 Z = true) (wz : (Jvm.Cond.initialized C).before a0 Z = true) (eT : T.heap = h) (hd : decode c.code pc = .ok (.new i, 3)) (hp : pc + 3 = pc') (hc : cells + 1 ≤ R.cells) (hl : slots + n ≤ R.slots)
    (k : ∀ T' h' b, Stand p l e R s m args below meth c T' locs (cells + 1) (slots + n) → T'.heap = h' → b = h.size → Ext h h' → Exa Z h' b C → (∀ {O nm d : String} {ty : FieldType}, Laid Z a0 C O nm d → parseFieldDescriptor d = some ty → Fld Z h' b O nm d (defaultValue ty)) → Goes p e below F T' (mkF m pc' ls (.ref b :: st))) : Goes p e below F T (mkF m pc ls st) := by
  subst hp
  obtain ⟨T', h', X', e', E, A, D, -, st'⟩ := newO X hx hZ hown w wi wz eT (g := mkF m pc ls st) rfl hd hc hl
  exact Goes.fore st' (k T' h' _ X' e' rfl E A D)
theorem gPutF (X : Stand p l e R s m args below meth c T locs cells slots) (hx : p.tables.exec = Jvm.exec) (hZ : Z.Warmed39 s.vm) {own R0 O n d C : String} {i kk : Nat} {ty : FieldType} (hown : s.vm.findClass own = some m.cls) (w : (Jvm.Cond.fieldLink own i R0 n d).before a0 Z = true) (via : Via Z R0 O n d) (eT : T.heap = h) {a : Addr} {v old : Value} (Fa : Fld Z h a O n d old) (E : Exa Z h a C) (L : (Jvm.Cond.lays C O n d).before a0 Z = true ∨ ((Jvm.Cond.laysFinal C O n d).before a0 Z = true ∧ own = O ∧ meth.name = "<init>")) (wi : (Jvm.Cond.instantiable C kk).before a0 Z = true)
    (hty : parseFieldDescriptor d = some ty) (hn : narrow ty v = v) (hf : fits ty v = true) (hd : decode c.code pc = .ok (.putfield i, 3)) (hp : pc + 3 = pc')
    (k : ∀ T' h', Stand p l e R s m args below meth c T' (locs ++ [⟨a, RoadKit.slotOf Z O n d⟩]) cells slots → T'.heap = h' → Wr h h' a (RoadKit.slotOf Z O n d) v → Goes p e below F T' (mkF m pc' ls st)) : Goes p e below F T (mkF m pc ls (v :: .ref a :: st)) := by
  subst hp
  obtain ⟨T', h', X', e', W, st'⟩ := putF X hx hZ (host := "") hown (Or.inl w) via eT Fa E L wi hty hn hf (g := mkF m pc ls (v :: .ref a :: st)) rfl rfl hd
  exact Goes.fore st' (k T' h' X' e' W)
theorem gInitO (X : Stand p l e R s m args below meth c T locs cells slots) (hx : p.tables.exec = Jvm.exec) (hZ : Z.Warmed39 s.vm) {own : String} {i : Nat} (hown : s.vm.findClass own = some m.cls) (w1 : (Jvm.Cond.methodLink own i Lib.objectInit).before a0 Z = true) (w2 : (Jvm.Cond.instanceMethod Lib.objectInit).before a0 Z = true) (w3 : (Jvm.Cond.code Lib.objectInit ⟨#[0xb1]⟩ 1 none).before a0 Z = true) (eT : T.heap = h) (hml : ls.size = c.maxLocals) {a : Addr} (hd : decode c.code pc = .ok (.invokespecial i, 3)) (hp : pc + 3 = pc') (hf : 1 ≤ R.frames) {W : Nat} (hW : (st.map fun v => v.category).sum ≤ W) (hl : W + 12 ≤ R.locals)
    (k : ∀ T', Stand p l e R s m args below meth c T' locs cells slots → T'.heap = h → Goes p e below F T' (mkF m pc' ls st)) : Goes p e below F T (mkF m pc ls (.ref a :: st)) := by
  subst hp
  obtain ⟨T', X', e', st'⟩ := initO X hx hZ hown w1 w2 w3 eT (g := mkF m pc ls (.ref a :: st)) rfl hml rfl hd hf (W := W) (by show 2 * 0 + _ ≤ _; omega) hl
  exact Goes.fore st' (k T' X' e')
theorem gCallI (X : Stand p l e R s m args below meth c T locs cells slots) (hx : p.tables.exec = Jvm.exec) (hZ : Z.Warmed39 s.vm) {y : MethodName} {bytes : ByteArray} {maxL : Nat} {rm : Room} {own : String} {i : Nat} {Qc : Option Value → Heap → List Loc → Prop} {a : Addr} (hy1 : y.name = "<init>") (hown : s.vm.findClass own = some m.cls) (eT : T.heap = h) (hml : ls.size = c.maxLocals)
    (w1 : (Jvm.Cond.methodLink own i y).before a0 Z = true) (w2 : (Jvm.Cond.instanceMethod y).before a0 Z = true) (w3 : (Jvm.Cond.initialized y.cls).before a0 Z = true) (w4 : (Jvm.Cond.code y bytes maxL none).before a0 Z = true) (hy : y.cls ≠ "java/lang/invoke/MethodHandle" ∧ y.cls ≠ "java/lang/invoke/VarHandle")
    {argsL : List Value} {stk : List Value} (hC : Ctr l Z y bytes maxL none [] rm (.ref a :: argsL).toArray h Qc) (hlen : ∀ sig, parseMethodDescriptor y.desc = some sig → argsL.length = sig.parameters.length) (hd : decode c.code pc = .ok (.invokespecial i, 3)) (hp : pc + 3 = pc') (hst : stk = argsL.reverse ++ .ref a :: st)
    (hf : rm.frames + 1 ≤ R.frames) {W : Nat} (hW : (st.map fun v => v.category).sum ≤ W) (hlo : W + (maxL + 11) + rm.locals ≤ R.locals) (hce : cells + rm.cells ≤ R.cells) (hsl : slots + rm.slots ≤ R.slots)
    (k : ∀ T' v L, Stand p l e R s m args below meth c T' (locs ++ L) (cells + rm.cells) (slots + rm.slots) → Qc v T'.heap L → Goes p e below F T' (mkF m pc' ls (v.toList ++ st))) : Goes p e below F T (mkF m pc ls stk) := by
  subst hp hst
  obtain ⟨v, _, ⟨T', L', k', n'⟩, -, X', ⟨Lc, hQ, l1, y1, z1⟩, st'⟩ := X.specialBack hx (y := y) hy1 hown (mvT hZ w1) (mvT hZ w2) (mvT hZ w4) hy (backOf (W := W) hC hZ w4 w3 hf hlo) (g := mkF m pc ls (argsL.reverse ++ .ref a :: st)) rfl hml (Steps.refl _) (a := a) (argsL := argsL) (rest := st) hlen rfl (by show 2 * 0 + _ ≤ _; omega) hd (fun _ _ => ⟨rfl, eT, hce, hsl⟩)
  dsimp only [Pt.U, Pt.locs, Pt.cells, Pt.slots] at X' l1 y1 z1 st' hQ
  subst l1 y1 z1
  exact Goes.tr st' (k T' v Lc X' hQ)
end OwnLayer
/-- a boolean as the machine holds it -/
def b2i (b : Bool) : Int32 := if b then 1 else 0
theorem b2_t {P : Prop} [Decidable P] (h : P) : b2i (decide P) = 1 := by simp [b2i, h]
theorem b2_f {P : Prop} [Decidable P] (h : ¬ P) : b2i (decide P) = 0 := by simp [b2i, h]
theorem b2_0 {b : Bool} : b2i b = 0 ↔ b = false := by cases b <;> simp [b2i]
theorem b2_n0 {b : Bool} : ¬ b2i b = 0 ↔ b = true := by cases b <;> simp [b2i]
theorem b2_inj {a b : Bool} : b2i a = b2i b ↔ a = b := by cases a <;> cases b <;> simp [b2i]
theorem b2_nar {b : Bool} : nar .boolean (b2i b) = b2i b := by cases b <;> rfl
theorem just_t {h0 h : Heap} {P : Prop} [Decidable P] (q : P) (e : h = h0) : Just h0 (.int (b2i (decide P))) (some (.int 1)) h [] := ⟨by rw [b2_t q], e, rfl⟩
theorem just_f {h0 h : Heap} {P : Prop} [Decidable P] (q : ¬ P) (e : h = h0) : Just h0 (.int (b2i (decide P))) (some (.int 0)) h [] := ⟨by rw [b2_f q], e, rfl⟩
/-- the law returns 1; what it wrote is new -/
def Law1 (h0 : Heap) (v : Option Value) (h : Heap) (L : List Loc) : Prop := v = some (.int 1) ∧ Fr h0.size L
theorem d_jdk_30_method_1_0 : decode jdk_30_method_1_code 0 = .ok (.aload_n 0, 1) := by decide +kernel
theorem d_jdk_30_method_1_1 : decode jdk_30_method_1_code 1 = .ok (.invokespecial 1, 3) := by decide +kernel
theorem d_jdk_30_method_1_4 : decode jdk_30_method_1_code 4 = .ok (.return_, 1) := by decide +kernel
theorem pn_3 : plainName "java/lang/Record" = true := by first | (simp [plainName, overriddenIn]; done) | decide +kernel
theorem ef_c_rec (m : MethodId) (a : Addr) : entryFrame m #[(.ref a)] 1 = mkF m 0 #[.val (.ref a)] [] := by first | (simp [entryFrame, mkF, argsToLocals, Value.category]; done) | rfl
set_option maxRecDepth 65536 in
set_option maxHeartbeats 40000000 in
theorem c_rec (l : Launch) (Z : State) (a0 : Array Value) (hw : ∀ d ∈ tables_1, d.before a0 Z = true) (a : Addr) (h0 : Heap)  :
    Ctr l Z (⟨"java/lang/Record", "<init>", "()V"⟩ : MethodName) jdk_30_method_1_code 1 none [] ({ frames := 1, cells := 0, slots := 0, locals := 12 } : Room) #[(.ref a)] h0 (fun v h L => v = none ∧ h = h0 ∧ L = []) := by
  refine Ctr.of (plainFor_of_name pn_3) ?_
  intro p e s m below meth c s₁ hx hby hml hret hown hnm hZ hlk X0 e0
  refine Goes.cast (ef_c_rec m a) ?_
  refine gLoadAN X0 hx (hb hby d_jdk_30_method_1_0) (pc' := 1) rfl rfl rfl ?_
  refine gInitO X0 hx hZ hown (hw _ (List.mem_of_getElem? (i := 11) rfl)) (hw _ (List.mem_of_getElem? (i := 12) rfl)) (hw _ (List.mem_of_getElem? (i := 13) rfl)) e0 (by rw [hml]; rfl) (hb hby d_jdk_30_method_1_1) (pc' := 4) rfl (by decide) (W := 0) (Nat.le_of_eq rfl) (by decide) (fun T1 X1 e1 => ?_)
  exact gRetV X1 hx hlk hret (hb hby d_jdk_30_method_1_4) (by decide) (by decide) (⟨rfl, e1, rfl⟩)
def Qi (Z : State) (a : Addr) (p1 p2 : Int32) (h0 : Heap) (n0 : Nat) (v : Option Value) (h : Heap) (L : List Loc) : Prop := v = none ∧ Fr n0 L ∧ Keep h0 h [a] ∧ Exa Z h a "com/example/clausewright/clausewright/outline/Outline$Span" ∧ Fld Z h a "com/example/clausewright/clausewright/outline/Outline$Span" "start" "I" (.int p1) ∧ Fld Z h a "com/example/clausewright/clausewright/outline/Outline$Span" "end" "I" (.int p2)
theorem d_prog_34_method_1_0 : decode prog_34_method_1_code 0 = .ok (.aload_n 0, 1) := by decide +kernel
theorem d_prog_34_method_1_1 : decode prog_34_method_1_code 1 = .ok (.invokespecial 1, 3) := by decide +kernel
theorem pd_0 : parseMethodDescriptor "()V" = some ⟨[], none⟩ := by decide +kernel
theorem d_prog_34_method_1_4 : decode prog_34_method_1_code 4 = .ok (.aload_n 0, 1) := by decide +kernel
theorem d_prog_34_method_1_5 : decode prog_34_method_1_code 5 = .ok (.iload_n 1, 1) := by decide +kernel
theorem d_prog_34_method_1_6 : decode prog_34_method_1_code 6 = .ok (.putfield 7, 3) := by decide +kernel
theorem d_prog_34_method_1_9 : decode prog_34_method_1_code 9 = .ok (.aload_n 0, 1) := by decide +kernel
theorem d_prog_34_method_1_10 : decode prog_34_method_1_code 10 = .ok (.iload_n 2, 1) := by decide +kernel
theorem d_prog_34_method_1_11 : decode prog_34_method_1_code 11 = .ok (.putfield 13, 3) := by decide +kernel
theorem d_prog_34_method_1_14 : decode prog_34_method_1_code 14 = .ok (.return_, 1) := by decide +kernel
theorem pn_0 : plainName "com/example/clausewright/clausewright/outline/Outline$Span" = true := by first | (simp [plainName, overriddenIn]; done) | decide +kernel
theorem ef_c_init (m : MethodId) (a : Addr) (p1 : Int32) (p2 : Int32) : entryFrame m #[(.ref a), (.int p1), (.int p2)] 3 = mkF m 0 #[.val (.ref a), .val (.int p1), .val (.int p2)] [] := by first | (simp [entryFrame, mkF, argsToLocals, Value.category]; done) | rfl
set_option maxRecDepth 65536 in
set_option maxHeartbeats 40000000 in
theorem c_init (l : Launch) (Z : State) (a0 : Array Value) (hw : ∀ d ∈ tables_1, d.before a0 Z = true) (a : Addr) (p1 p2 u1 u2 : Int32) (n0 : Nat) (h0 : Heap) (ga : n0 ≤ a) (E1 : Exa Z h0 a "com/example/clausewright/clausewright/outline/Outline$Span") (F1 : Fld Z h0 a "com/example/clausewright/clausewright/outline/Outline$Span" "start" "I" (.int u1)) (F2 : Fld Z h0 a "com/example/clausewright/clausewright/outline/Outline$Span" "end" "I" (.int u2)) :
    Ctr l Z (⟨"com/example/clausewright/clausewright/outline/Outline$Span", "<init>", "(II)V"⟩ : MethodName) prog_34_method_1_code 3 none [] ({ frames := 2, cells := 0, slots := 0, locals := 24 } : Room) #[(.ref a), (.int p1), (.int p2)] h0 (Qi Z a p1 p2 h0 n0) := by
  refine Ctr.of (plainFor_of_name pn_0) ?_
  intro p e s m below meth c s₁ hx hby hml hret hown hnm hZ hlk X0 e0
  refine Goes.cast (ef_c_init m a p1 p2) ?_
  refine gLoadAN X0 hx (hb hby d_prog_34_method_1_0) (pc' := 1) rfl rfl rfl ?_
  refine gCallI X0 hx hZ (y := (⟨"java/lang/Record", "<init>", "()V"⟩ : MethodName)) rfl hown e0 (by rw [hml]; rfl) (hw _ (List.mem_of_getElem? (i := 6) rfl)) (hw _ (List.mem_of_getElem? (i := 7) rfl)) (hw _ (List.mem_of_getElem? (i := 9) rfl)) (hw _ (List.mem_of_getElem? (i := 10) rfl)) (by decide) (argsL := []) (st := []) (c_rec l Z a0 hw a h0) (lenOf pd_0 rfl) (hb hby d_prog_34_method_1_1) (pc' := 4) rfl rfl (by decide) (W := 0) (Nat.le_of_eq rfl) (by decide) (by decide) (by decide) ?_
  intro T1 v1 L1 X1 hQ1
  obtain ⟨rfl, eq1, rfl⟩ := hQ1
  rw [List.append_nil] at X1
  refine gLoadAN X1 hx (hb hby d_prog_34_method_1_4) (pc' := 5) rfl rfl rfl ?_
  refine gLoadIN X1 hx (hb hby d_prog_34_method_1_5) (pc' := 6) rfl rfl ?_
  refine gPutF X1 hx hZ hown (hw _ (List.mem_of_getElem? (i := 14) rfl)) Via.refl eq1 F1 E1 (Or.inr ⟨(hw _ (List.mem_of_getElem? (i := 15) rfl)), rfl, hnm⟩) (hw _ (List.mem_of_getElem? (i := 1) rfl)) (ty := .int) (by decide) rfl rfl (hb hby d_prog_34_method_1_6) (pc' := 9) rfl (fun T2 h2 X2 e2 W2 => ?_)
  have f2_0 := F1.same W2
  have f2_1 := F2.other W2 (Or.inr (slot_ne (Or.inr (hw _ (List.mem_of_getElem? (i := 17) rfl))) (Or.inr (hw _ (List.mem_of_getElem? (i := 15) rfl))) (by decide) (t := .int) (t' := .int) (by decide) (by decide)))
  have f2_2 := E1.wr W2
  have zs2 : h0.size ≤ h2.size := by rw [W2.size]; exact (Nat.le_refl _)
  have N2 := Fr.snoc X2 (Fr.nil n0) ga
  have K2 : Keep h0 h2 [a] := (Keep.refl h0 [a]).wr W2 (Or.inl (by simp))
  refine gLoadAN X2 hx (hb hby d_prog_34_method_1_9) (pc' := 10) rfl rfl rfl ?_
  refine gLoadIN X2 hx (hb hby d_prog_34_method_1_10) (pc' := 11) rfl rfl ?_
  refine gPutF X2 hx hZ hown (hw _ (List.mem_of_getElem? (i := 16) rfl)) Via.refl e2 f2_1 f2_2 (Or.inr ⟨(hw _ (List.mem_of_getElem? (i := 17) rfl)), rfl, hnm⟩) (hw _ (List.mem_of_getElem? (i := 1) rfl)) (ty := .int) (by decide) rfl rfl (hb hby d_prog_34_method_1_11) (pc' := 14) rfl (fun T3 h3 X3 e3 W3 => ?_)
  have f3_0 := f2_0.other W3 (Or.inr (slot_ne (Or.inr (hw _ (List.mem_of_getElem? (i := 15) rfl))) (Or.inr (hw _ (List.mem_of_getElem? (i := 17) rfl))) (by decide) (t := .int) (t' := .int) (by decide) (by decide)))
  have f3_1 := f2_1.same W3
  have f3_2 := f2_2.wr W3
  have zs3 : h0.size ≤ h3.size := by rw [W3.size]; exact zs2
  have N3 := Fr.snoc X3 N2 ga
  have K3 : Keep h0 h3 [a] := K2.wr W3 (Or.inl (by simp))
  exact gRetV X3 hx hlk hret (hb hby d_prog_34_method_1_14) (by decide) (by decide) (⟨rfl, N3, by rw [e3]; exact K3, by rw [e3]; exact f3_2, by rw [e3]; exact f3_0, by rw [e3]; exact f3_1⟩)
theorem d_prog_34_method_2_0 : decode prog_34_method_2_code 0 = .ok (.iload_n 1, 1) := by decide +kernel
theorem d_prog_34_method_2_1 : decode prog_34_method_2_code 1 = .ok (.aload_n 0, 1) := by decide +kernel
theorem d_prog_34_method_2_2 : decode prog_34_method_2_code 2 = .ok (.getfield 7, 3) := by decide +kernel
theorem d_prog_34_method_2_5 : decode prog_34_method_2_code 5 = .ok (.if_icmp .lt 15, 3) := by decide +kernel
theorem d_prog_34_method_2_20 : decode prog_34_method_2_code 20 = .ok (.iconst 0, 1) := by decide +kernel
theorem d_prog_34_method_2_21 : decode prog_34_method_2_code 21 = .ok (.ireturn, 1) := by decide +kernel
theorem d_prog_34_method_2_8 : decode prog_34_method_2_code 8 = .ok (.iload_n 1, 1) := by decide +kernel
theorem d_prog_34_method_2_9 : decode prog_34_method_2_code 9 = .ok (.aload_n 0, 1) := by decide +kernel
theorem d_prog_34_method_2_10 : decode prog_34_method_2_code 10 = .ok (.getfield 13, 3) := by decide +kernel
theorem d_prog_34_method_2_13 : decode prog_34_method_2_code 13 = .ok (.if_icmp .ge 7, 3) := by decide +kernel
theorem d_prog_34_method_2_16 : decode prog_34_method_2_code 16 = .ok (.iconst 1, 1) := by decide +kernel
theorem d_prog_34_method_2_17 : decode prog_34_method_2_code 17 = .ok (.goto 4, 3) := by decide +kernel
theorem ef_c_contains (m : MethodId) (a : Addr) (p1 : Int32) : entryFrame m #[(.ref a), (.int p1)] 2 = mkF m 0 #[.val (.ref a), .val (.int p1)] [] := by first | (simp [entryFrame, mkF, argsToLocals, Value.category]; done) | rfl
set_option maxRecDepth 65536 in
set_option maxHeartbeats 40000000 in
theorem c_contains (l : Launch) (Z : State) (a0 : Array Value) (hw : ∀ d ∈ tables_1, d.before a0 Z = true) (a : Addr) (p1 u1 u2 : Int32) (h0 : Heap) (F1 : Fld Z h0 a "com/example/clausewright/clausewright/outline/Outline$Span" "start" "I" (.int u1)) (F2 : Fld Z h0 a "com/example/clausewright/clausewright/outline/Outline$Span" "end" "I" (.int u2)) :
    Ctr l Z (⟨"com/example/clausewright/clausewright/outline/Outline$Span", "contains", "(I)Z"⟩ : MethodName) prog_34_method_2_code 2 (some .boolean) [] ({ frames := 0, cells := 0, slots := 0, locals := 0 } : Room) #[(.ref a), (.int p1)] h0 (Just h0 (.int (b2i (decide (u1.toInt ≤ p1.toInt ∧ p1.toInt < u2.toInt))))) := by
  refine Ctr.of (plainFor_of_name pn_0) ?_
  intro p e s m below meth c s₁ hx hby hml hret hown hnm hZ hlk X0 e0
  refine Goes.cast (ef_c_contains m a p1) ?_
  refine gLoadIN X0 hx (hb hby d_prog_34_method_2_0) (pc' := 1) rfl rfl ?_
  refine gLoadAN X0 hx (hb hby d_prog_34_method_2_1) (pc' := 2) rfl rfl rfl ?_
  refine gGetF X0 hx hZ hown (hw _ (List.mem_of_getElem? (i := 14) rfl)) Via.refl e0 F1 (hb hby d_prog_34_method_2_2) (pc' := 5) rfl (fun T1 X1 e1 => ?_)
  refine gIcmpLt X1 hx (hb hby d_prog_34_method_2_5) (pc' := 20) (by decide) (by decide) (pn := 8) rfl (fun (c5 : p1.toInt < u1.toInt) => ?_) (fun (c5 : u1.toInt ≤ p1.toInt) => ?_)
  · refine gIconst X1 hx (v := (0 : Int32)) (hb hby d_prog_34_method_2_20) (pc' := 21) rfl rfl ?_
    exact gRetN X1 hx hlk hret (by simp) (hb hby d_prog_34_method_2_21) (w := (0 : Int32)) rfl (by decide) (by decide) (just_f (by omega) e1)
  · refine gLoadIN X1 hx (hb hby d_prog_34_method_2_8) (pc' := 9) rfl rfl ?_
    refine gLoadAN X1 hx (hb hby d_prog_34_method_2_9) (pc' := 10) rfl rfl rfl ?_
    refine gGetF X1 hx hZ hown (hw _ (List.mem_of_getElem? (i := 16) rfl)) Via.refl e1 F2 (hb hby d_prog_34_method_2_10) (pc' := 13) rfl (fun T2 X2 e2 => ?_)
    refine gIcmpGe X2 hx (hb hby d_prog_34_method_2_13) (pc' := 20) (by decide) (by decide) (pn := 16) rfl (fun (c13 : u2.toInt ≤ p1.toInt) => ?_) (fun (c13 : p1.toInt < u2.toInt) => ?_)
    · refine gIconst X2 hx (v := (0 : Int32)) (hb hby d_prog_34_method_2_20) (pc' := 21) rfl rfl ?_
      exact gRetN X2 hx hlk hret (by simp) (hb hby d_prog_34_method_2_21) (w := (0 : Int32)) rfl (by decide) (by decide) (just_f (by omega) e2)
    · refine gIconst X2 hx (v := (1 : Int32)) (hb hby d_prog_34_method_2_16) (pc' := 17) rfl rfl ?_
      refine gGoto X2 hx (hb hby d_prog_34_method_2_17) (pc' := 21) (by decide) (by decide) ?_
      exact gRetN X2 hx hlk hret (by simp) (hb hby d_prog_34_method_2_21) (w := (1 : Int32)) rfl (by decide) (by decide) (just_t (by omega) e2)
theorem pd_2 : parseMethodDescriptor "(II)V" = some ⟨[.int, .int], none⟩ := by decide +kernel
theorem pd_1 : parseMethodDescriptor "(I)Z" = some ⟨[.int], some .boolean⟩ := by decide +kernel
theorem pn_1 : plainName "com/example/clausewright/clausewright/outline/SpanContainsPinLaw" = true := by first | (simp [plainName, overriddenIn]; done) | decide +kernel
theorem ef_c_law (m : MethodId) (p0 : Int32) (q1 : Int32) (q2 : Int32) : entryFrame m #[(.int p0), (.int q1), (.int q2)] 16 = mkF m 0 #[.val (.int p0), .val (.int q1), .val (.int q2), .unset, .unset, .unset, .unset, .unset, .unset, .unset, .unset, .unset, .unset, .unset, .unset, .unset] [] := by first | (simp [entryFrame, mkF, argsToLocals, Value.category]; done) | rfl
set_option maxRecDepth 65536 in
set_option maxHeartbeats 40000000 in
theorem c_law (l : Launch) (Z : State) (a0 : Array Value) (hw : ∀ d ∈ tables_1, d.before a0 Z = true) (p0 q1 q2 : Int32) (h0 : Heap)  :
    Ctr l Z x code maxLocals ret tables_1 room_1 #[(.int p0), (.int q1), (.int q2)] h0 (Law1 h0) := by
  refine Ctr.of (plainFor_of_name pn_1) ?_
  intro p e s m below meth c s₁ hx hby hml hret hown hnm hZ hlk X0 e0
  replace hml : c.maxLocals = 16 := hml
  refine Goes.cast (ef_c_law m p0 q1 q2) ?_
  refine gNew X0 hx hZ hown (hw _ (List.mem_of_getElem? (i := 0) rfl)) (hw _ (List.mem_of_getElem? (i := 1) rfl)) (hw _ (List.mem_of_getElem? (i := 2) rfl)) e0 (hb hby at_0) (pc' := 3) rfl (by decide) (by decide) (fun T1 h1 b1 X1 e1 g1 E1 A1 D1 => ?_)
  have sz_b1 : h0.size ≤ b1 := Nat.le_trans (Nat.le_refl _) (Nat.le_of_eq g1.symm)
  have zs1 : h0.size ≤ h1.size := Nat.le_trans (Nat.le_refl _) E1.1
  have F1_start : Fld Z h1 b1 "com/example/clausewright/clausewright/outline/Outline$Span" "start" "I" (.int (0 : Int32)) := D1 (Or.inr (hw _ (List.mem_of_getElem? (i := 15) rfl))) (ty := .int) (by decide)
  have F1_end : Fld Z h1 b1 "com/example/clausewright/clausewright/outline/Outline$Span" "end" "I" (.int (0 : Int32)) := D1 (Or.inr (hw _ (List.mem_of_getElem? (i := 17) rfl))) (ty := .int) (by decide)
  refine gDup X1 hx (hb hby at_3) (pc' := 4) rfl rfl ?_
  refine gLoadIN X1 hx (hb hby at_4) (pc' := 5) rfl rfl ?_
  refine gLoadIN X1 hx (hb hby at_5) (pc' := 6) rfl rfl ?_
  refine gCallI X1 hx hZ (y := (⟨"com/example/clausewright/clausewright/outline/Outline$Span", "<init>", "(II)V"⟩ : MethodName)) rfl hown e1 (by rw [hml]; rfl) (hw _ (List.mem_of_getElem? (i := 3) rfl)) (hw _ (List.mem_of_getElem? (i := 4) rfl)) (hw _ (List.mem_of_getElem? (i := 2) rfl)) (hw _ (List.mem_of_getElem? (i := 5) rfl)) (by decide) (argsL := [(.int p0), (.int q1)]) (st := [(.ref b1)]) (c_init l Z a0 hw b1 p0 q1 _ _ h0.size h1 sz_b1 A1 F1_start F1_end) (lenOf pd_2 rfl) (hb hby at_6) (pc' := 9) rfl rfl (by decide) (W := 1) (Nat.le_of_eq rfl) (by decide) (by decide) (by decide) ?_
  intro T2 v2 L2 X2 hQ2
  obtain ⟨rfl, Nq2, Kq2, Eq2, Fs2, Fe2⟩ := hQ2
  have N2 := Fr.app (Fr.nil h0.size) Nq2
  refine gStoreAN X2 hx (hb hby at_9) (l' := #[.val (.int p0), .val (.int q1), .val (.int q2), .val (.ref b1), .unset, .unset, .unset, .unset, .unset, .unset, .unset, .unset, .unset, .unset, .unset, .unset]) (pc' := 10) rfl rfl rfl ?_
  refine gLoadIN X2 hx (hb hby at_10) (pc' := 11) rfl rfl ?_
  refine gI2l X2 hx (hb hby at_11) (pc' := 12) rfl ?_
  refine gStoreJ X2 hx (hb hby at_12) (l' := #[.val (.int p0), .val (.int q1), .val (.int q2), .val (.ref b1), .val (.long (p0.toInt64)), .second, .unset, .unset, .unset, .unset, .unset, .unset, .unset, .unset, .unset, .unset]) (pc' := 14) rfl rfl ?_
  refine gLoadIN X2 hx (hb hby at_14) (pc' := 15) rfl rfl ?_
  refine gI2l X2 hx (hb hby at_15) (pc' := 16) rfl ?_
  refine gStoreJ X2 hx (hb hby at_16) (l' := #[.val (.int p0), .val (.int q1), .val (.int q2), .val (.ref b1), .val (.long (p0.toInt64)), .second, .val (.long (q1.toInt64)), .second, .unset, .unset, .unset, .unset, .unset, .unset, .unset, .unset]) (pc' := 18) rfl rfl ?_
  refine gLoadIN X2 hx (hb hby at_18) (pc' := 19) rfl rfl ?_
  refine gI2l X2 hx (hb hby at_19) (pc' := 20) rfl ?_
  refine gStoreJ X2 hx (hb hby at_20) (l' := #[.val (.int p0), .val (.int q1), .val (.int q2), .val (.ref b1), .val (.long (p0.toInt64)), .second, .val (.long (q1.toInt64)), .second, .val (.long (q2.toInt64)), .second, .unset, .unset, .unset, .unset, .unset, .unset]) (pc' := 22) rfl rfl ?_
  have eAB : (q2.toInt64 - p0.toInt64).toInt = q2.toInt - p0.toInt := by
    have r0 := q2.toInt_lt; have r1 := q2.le_toInt; have r2 := p0.toInt_lt; have r3 := p0.le_toInt
    rw [Jvm.Kit.i64_sub (by rw [Int32.toInt_toInt64, Int32.toInt_toInt64]; omega) (by rw [Int32.toInt_toInt64, Int32.toInt_toInt64]; omega), Int32.toInt_toInt64, Int32.toInt_toInt64]
  have eCD : (q1.toInt64 - q2.toInt64).toInt = q1.toInt - q2.toInt := by
    have r0 := q1.toInt_lt; have r1 := q1.le_toInt; have r2 := q2.toInt_lt; have r3 := q2.le_toInt
    rw [Jvm.Kit.i64_sub (by rw [Int32.toInt_toInt64, Int32.toInt_toInt64]; omega) (by rw [Int32.toInt_toInt64, Int32.toInt_toInt64]; omega), Int32.toInt_toInt64, Int32.toInt_toInt64]
  have eGH : (q1.toInt64 - p0.toInt64).toInt = q1.toInt - p0.toInt := by
    have r0 := q1.toInt_lt; have r1 := q1.le_toInt; have r2 := p0.toInt_lt; have r3 := p0.le_toInt
    rw [Jvm.Kit.i64_sub (by rw [Int32.toInt_toInt64, Int32.toInt_toInt64]; omega) (by rw [Int32.toInt_toInt64, Int32.toInt_toInt64]; omega), Int32.toInt_toInt64, Int32.toInt_toInt64]
  refine gLoadJ X2 hx (hb hby at_22) (pc' := 24) rfl rfl ?_
  refine gLoadJ X2 hx (hb hby at_24) (pc' := 26) rfl rfl ?_
  refine gLsub X2 hx (hb hby at_26) (pc' := 27) rfl ?_
  refine gLconst X2 hx (v := (0 : Int64)) (hb hby at_27) (pc' := 28) rfl rfl ?_
  refine gLcmp X2 hx (hb hby at_28) (pc' := 29) rfl ?_
  refine gLIfLt X2 hx (hb hby at_29) (pc' := 46) (by decide) (by decide) (pn := 32) rfl (fun (c29 : ((q2.toInt64) - (p0.toInt64)).toInt < (0 : Int)) => ?_) (fun (c29 : (0 : Int) ≤ ((q2.toInt64) - (p0.toInt64)).toInt) => ?_)
  · refine gIconst X2 hx (v := (0 : Int32)) (hb hby at_46) (pc' := 47) rfl rfl ?_
    refine gStoreI X2 hx (hb hby at_47) (l' := #[.val (.int p0), .val (.int q1), .val (.int q2), .val (.ref b1), .val (.long (p0.toInt64)), .second, .val (.long (q1.toInt64)), .second, .val (.long (q2.toInt64)), .second, .val (.int (0 : Int32)), .unset, .unset, .unset, .unset, .unset]) (pc' := 49) rfl rfl ?_
    refine gLoadJ X2 hx (hb hby at_49) (pc' := 51) rfl rfl ?_
    refine gLoadJ X2 hx (hb hby at_51) (pc' := 53) rfl rfl ?_
    refine gLsub X2 hx (hb hby at_53) (pc' := 54) rfl ?_
    refine gLconst X2 hx (v := (0 : Int64)) (hb hby at_54) (pc' := 55) rfl rfl ?_
    refine gLcmp X2 hx (hb hby at_55) (pc' := 56) rfl ?_
    refine gLIfLe X2 hx (hb hby at_56) (pc' := 63) (by decide) (by decide) (pn := 59) rfl (fun (c56 : ((q1.toInt64) - (p0.toInt64)).toInt ≤ (0 : Int)) => ?_) (fun (c56 : (0 : Int) < ((q1.toInt64) - (p0.toInt64)).toInt) => ?_)
    · refine gIconst X2 hx (v := (0 : Int32)) (hb hby at_63) (pc' := 64) rfl rfl ?_
      refine gStoreI X2 hx (hb hby at_64) (l' := #[.val (.int p0), .val (.int q1), .val (.int q2), .val (.ref b1), .val (.long (p0.toInt64)), .second, .val (.long (q1.toInt64)), .second, .val (.long (q2.toInt64)), .second, .val (.int (0 : Int32)), .val (.int (0 : Int32)), .unset, .unset, .unset, .unset]) (pc' := 66) rfl rfl ?_
      refine gLoadAN X2 hx (hb hby at_66) (pc' := 67) rfl rfl rfl ?_
      refine gLoadIN X2 hx (hb hby at_67) (pc' := 68) rfl rfl ?_
      refine gCallVJ X2 hx hZ (y := (⟨"com/example/clausewright/clausewright/outline/Outline$Span", "contains", "(I)Z"⟩ : MethodName)) hown rfl (by rw [hml]; rfl) Eq2 (hw _ (List.mem_of_getElem? (i := 18) rfl)) (hw _ (List.mem_of_getElem? (i := 19) rfl)) (hw _ (List.mem_of_getElem? (i := 21) rfl)) (hw _ (List.mem_of_getElem? (i := 20) rfl)) (hw _ (List.mem_of_getElem? (i := 2) rfl)) (hw _ (List.mem_of_getElem? (i := 22) rfl)) (by decide) (argsL := [(.int q2)]) (st := []) (c_contains l Z a0 hw b1 q2 _ _ _ Fs2 Fe2) (lenOf pd_1 rfl) (hb hby at_68) (pc' := 71) rfl rfl rfl rfl (by decide) (W := 0) (Nat.le_of_eq rfl) (by decide) (by decide) (by decide) ?_
      intro T3 X3 e3
      refine gStoreI X3 hx (hb hby at_71) (l' := #[.val (.int p0), .val (.int q1), .val (.int q2), .val (.ref b1), .val (.long (p0.toInt64)), .second, .val (.long (q1.toInt64)), .second, .val (.long (q2.toInt64)), .second, .val (.int (0 : Int32)), .val (.int (0 : Int32)), .val (.int (b2i (decide (p0.toInt ≤ q2.toInt ∧ q2.toInt < q1.toInt)))), .unset, .unset, .unset]) (pc' := 73) rfl rfl ?_
      refine gLoadAN X3 hx (hb hby at_73) (pc' := 74) rfl rfl rfl ?_
      refine gLoadIN X3 hx (hb hby at_74) (pc' := 75) rfl rfl ?_
      refine gCallVJ X3 hx hZ (y := (⟨"com/example/clausewright/clausewright/outline/Outline$Span", "contains", "(I)Z"⟩ : MethodName)) hown e3 (by rw [hml]; rfl) Eq2 (hw _ (List.mem_of_getElem? (i := 18) rfl)) (hw _ (List.mem_of_getElem? (i := 19) rfl)) (hw _ (List.mem_of_getElem? (i := 21) rfl)) (hw _ (List.mem_of_getElem? (i := 20) rfl)) (hw _ (List.mem_of_getElem? (i := 2) rfl)) (hw _ (List.mem_of_getElem? (i := 22) rfl)) (by decide) (argsL := [(.int q1)]) (st := []) (c_contains l Z a0 hw b1 q1 _ _ _ Fs2 Fe2) (lenOf pd_1 rfl) (hb hby at_75) (pc' := 78) rfl rfl rfl rfl (by decide) (W := 0) (Nat.le_of_eq rfl) (by decide) (by decide) (by decide) ?_
      intro T4 X4 e4
      refine gStoreI X4 hx (hb hby at_78) (l' := #[.val (.int p0), .val (.int q1), .val (.int q2), .val (.ref b1), .val (.long (p0.toInt64)), .second, .val (.long (q1.toInt64)), .second, .val (.long (q2.toInt64)), .second, .val (.int (0 : Int32)), .val (.int (0 : Int32)), .val (.int (b2i (decide (p0.toInt ≤ q2.toInt ∧ q2.toInt < q1.toInt)))), .val (.int (b2i (decide (p0.toInt ≤ q1.toInt ∧ q1.toInt < q1.toInt)))), .unset, .unset]) (pc' := 80) rfl rfl ?_
      refine gLoadAN X4 hx (hb hby at_80) (pc' := 81) rfl rfl rfl ?_
      refine gLoadIN X4 hx (hb hby at_81) (pc' := 82) rfl rfl ?_
      refine gCallVJ X4 hx hZ (y := (⟨"com/example/clausewright/clausewright/outline/Outline$Span", "contains", "(I)Z"⟩ : MethodName)) hown e4 (by rw [hml]; rfl) Eq2 (hw _ (List.mem_of_getElem? (i := 18) rfl)) (hw _ (List.mem_of_getElem? (i := 19) rfl)) (hw _ (List.mem_of_getElem? (i := 21) rfl)) (hw _ (List.mem_of_getElem? (i := 20) rfl)) (hw _ (List.mem_of_getElem? (i := 2) rfl)) (hw _ (List.mem_of_getElem? (i := 22) rfl)) (by decide) (argsL := [(.int p0)]) (st := []) (c_contains l Z a0 hw b1 p0 _ _ _ Fs2 Fe2) (lenOf pd_1 rfl) (hb hby at_82) (pc' := 85) rfl rfl rfl rfl (by decide) (W := 0) (Nat.le_of_eq rfl) (by decide) (by decide) (by decide) ?_
      intro T5 X5 e5
      refine gStoreI X5 hx (hb hby at_85) (l' := #[.val (.int p0), .val (.int q1), .val (.int q2), .val (.ref b1), .val (.long (p0.toInt64)), .second, .val (.long (q1.toInt64)), .second, .val (.long (q2.toInt64)), .second, .val (.int (0 : Int32)), .val (.int (0 : Int32)), .val (.int (b2i (decide (p0.toInt ≤ q2.toInt ∧ q2.toInt < q1.toInt)))), .val (.int (b2i (decide (p0.toInt ≤ q1.toInt ∧ q1.toInt < q1.toInt)))), .val (.int (b2i (decide (p0.toInt ≤ p0.toInt ∧ p0.toInt < q1.toInt)))), .unset]) (pc' := 87) rfl rfl ?_
      refine gLoadAN X5 hx (hb hby at_87) (pc' := 88) rfl rfl rfl ?_
      refine gLoadIN X5 hx (hb hby at_88) (pc' := 89) rfl rfl ?_
      refine gIconst X5 hx (v := (1 : Int32)) (hb hby at_89) (pc' := 90) rfl rfl ?_
      refine gIsub X5 hx (hb hby at_90) (pc' := 91) rfl ?_
      refine gCallVJ X5 hx hZ (y := (⟨"com/example/clausewright/clausewright/outline/Outline$Span", "contains", "(I)Z"⟩ : MethodName)) hown e5 (by rw [hml]; rfl) Eq2 (hw _ (List.mem_of_getElem? (i := 18) rfl)) (hw _ (List.mem_of_getElem? (i := 19) rfl)) (hw _ (List.mem_of_getElem? (i := 21) rfl)) (hw _ (List.mem_of_getElem? (i := 20) rfl)) (hw _ (List.mem_of_getElem? (i := 2) rfl)) (hw _ (List.mem_of_getElem? (i := 22) rfl)) (by decide) (argsL := [(.int (q1 - (1 : Int32)))]) (st := []) (c_contains l Z a0 hw b1 (q1 - (1 : Int32)) _ _ _ Fs2 Fe2) (lenOf pd_1 rfl) (hb hby at_91) (pc' := 94) rfl rfl rfl rfl (by decide) (W := 0) (Nat.le_of_eq rfl) (by decide) (by decide) (by decide) ?_
      intro T6 X6 e6
      refine gStoreI X6 hx (hb hby at_94) (l' := #[.val (.int p0), .val (.int q1), .val (.int q2), .val (.ref b1), .val (.long (p0.toInt64)), .second, .val (.long (q1.toInt64)), .second, .val (.long (q2.toInt64)), .second, .val (.int (0 : Int32)), .val (.int (0 : Int32)), .val (.int (b2i (decide (p0.toInt ≤ q2.toInt ∧ q2.toInt < q1.toInt)))), .val (.int (b2i (decide (p0.toInt ≤ q1.toInt ∧ q1.toInt < q1.toInt)))), .val (.int (b2i (decide (p0.toInt ≤ p0.toInt ∧ p0.toInt < q1.toInt)))), .val (.int (b2i (decide (p0.toInt ≤ (q1 - (1 : Int32)).toInt ∧ (q1 - (1 : Int32)).toInt < q1.toInt))))]) (pc' := 96) rfl rfl ?_
      refine gLoadI X6 hx (hb hby at_96) (pc' := 98) rfl rfl ?_
      refine gLoadI X6 hx (hb hby at_98) (pc' := 100) rfl rfl ?_
      refine gIcmpNe X6 hx (hb hby at_100) (pc' := 126) (by decide) (by decide) (pn := 103) rfl (fun (c100 : ¬ (b2i (decide (p0.toInt ≤ q2.toInt ∧ q2.toInt < q1.toInt))) = (0 : Int32)) => ?_) (fun (c100 : (b2i (decide (p0.toInt ≤ q2.toInt ∧ q2.toInt < q1.toInt))) = (0 : Int32)) => ?_)
      · exact absurd (b2_f (by have r0 := p0.toInt_lt; have r1 := p0.le_toInt; have r2 := q1.toInt_lt; have r3 := q1.le_toInt; have r4 := q2.toInt_lt; have r5 := q2.le_toInt; omega)) c100
      · refine gLoadI X6 hx (hb hby at_103) (pc' := 105) rfl rfl ?_
        refine gIfNe X6 hx (hb hby at_105) (pc' := 126) (by decide) (by decide) (pn := 108) rfl (fun (c105 : ¬ (b2i (decide (p0.toInt ≤ q1.toInt ∧ q1.toInt < q1.toInt))) = (0 : Int32)) => ?_) (fun (c105 : (b2i (decide (p0.toInt ≤ q1.toInt ∧ q1.toInt < q1.toInt))) = (0 : Int32)) => ?_)
        · exact absurd (b2_f (by omega)) c105
        · refine gLoadI X6 hx (hb hby at_108) (pc' := 110) rfl rfl ?_
          refine gLoadI X6 hx (hb hby at_110) (pc' := 112) rfl rfl ?_
          refine gIcmpNe X6 hx (hb hby at_112) (pc' := 126) (by decide) (by decide) (pn := 115) rfl (fun (c112 : ¬ (b2i (decide (p0.toInt ≤ p0.toInt ∧ p0.toInt < q1.toInt))) = (0 : Int32)) => ?_) (fun (c112 : (b2i (decide (p0.toInt ≤ p0.toInt ∧ p0.toInt < q1.toInt))) = (0 : Int32)) => ?_)
          · exact absurd (b2_f (by have r0 := p0.toInt_lt; have r1 := p0.le_toInt; have r2 := q1.toInt_lt; have r3 := q1.le_toInt; have r4 := q2.toInt_lt; have r5 := q2.le_toInt; omega)) c112
          · refine gLoadI X6 hx (hb hby at_115) (pc' := 117) rfl rfl ?_
            refine gLoadI X6 hx (hb hby at_117) (pc' := 119) rfl rfl ?_
            refine gIcmpNe X6 hx (hb hby at_119) (pc' := 126) (by decide) (by decide) (pn := 122) rfl (fun (c119 : ¬ (b2i (decide (p0.toInt ≤ (q1 - (1 : Int32)).toInt ∧ (q1 - (1 : Int32)).toInt < q1.toInt))) = (0 : Int32)) => ?_) (fun (c119 : (b2i (decide (p0.toInt ≤ (q1 - (1 : Int32)).toInt ∧ (q1 - (1 : Int32)).toInt < q1.toInt))) = (0 : Int32)) => ?_)
            · exact absurd (b2_f (by have r0 := p0.toInt_lt; have r1 := p0.le_toInt; have r2 := q1.toInt_lt; have r3 := q1.le_toInt; have r4 := q2.toInt_lt; have r5 := q2.le_toInt; have z := c_isub q1 1; have z1 : (1 : Int32).toInt = 1 := rfl; have r6 := (q1 - 1).toInt_lt; have r7 := (q1 - 1).le_toInt; omega)) c119
            · refine gIconst X6 hx (v := (1 : Int32)) (hb hby at_122) (pc' := 123) rfl rfl ?_
              refine gGoto X6 hx (hb hby at_123) (pc' := 127) (by decide) (by decide) ?_
              exact gRetN X6 hx hlk hret (by simp) (hb hby at_127) (w := (1 : Int32)) rfl (by decide) (by decide) (⟨rfl, N2⟩)
    · refine gIconst X2 hx (v := (1 : Int32)) (hb hby at_59) (pc' := 60) rfl rfl ?_
      refine gGoto X2 hx (hb hby at_60) (pc' := 64) (by decide) (by decide) ?_
      refine gStoreI X2 hx (hb hby at_64) (l' := #[.val (.int p0), .val (.int q1), .val (.int q2), .val (.ref b1), .val (.long (p0.toInt64)), .second, .val (.long (q1.toInt64)), .second, .val (.long (q2.toInt64)), .second, .val (.int (0 : Int32)), .val (.int (1 : Int32)), .unset, .unset, .unset, .unset]) (pc' := 66) rfl rfl ?_
      refine gLoadAN X2 hx (hb hby at_66) (pc' := 67) rfl rfl rfl ?_
      refine gLoadIN X2 hx (hb hby at_67) (pc' := 68) rfl rfl ?_
      refine gCallVJ X2 hx hZ (y := (⟨"com/example/clausewright/clausewright/outline/Outline$Span", "contains", "(I)Z"⟩ : MethodName)) hown rfl (by rw [hml]; rfl) Eq2 (hw _ (List.mem_of_getElem? (i := 18) rfl)) (hw _ (List.mem_of_getElem? (i := 19) rfl)) (hw _ (List.mem_of_getElem? (i := 21) rfl)) (hw _ (List.mem_of_getElem? (i := 20) rfl)) (hw _ (List.mem_of_getElem? (i := 2) rfl)) (hw _ (List.mem_of_getElem? (i := 22) rfl)) (by decide) (argsL := [(.int q2)]) (st := []) (c_contains l Z a0 hw b1 q2 _ _ _ Fs2 Fe2) (lenOf pd_1 rfl) (hb hby at_68) (pc' := 71) rfl rfl rfl rfl (by decide) (W := 0) (Nat.le_of_eq rfl) (by decide) (by decide) (by decide) ?_
      intro T7 X7 e7
      refine gStoreI X7 hx (hb hby at_71) (l' := #[.val (.int p0), .val (.int q1), .val (.int q2), .val (.ref b1), .val (.long (p0.toInt64)), .second, .val (.long (q1.toInt64)), .second, .val (.long (q2.toInt64)), .second, .val (.int (0 : Int32)), .val (.int (1 : Int32)), .val (.int (b2i (decide (p0.toInt ≤ q2.toInt ∧ q2.toInt < q1.toInt)))), .unset, .unset, .unset]) (pc' := 73) rfl rfl ?_
      refine gLoadAN X7 hx (hb hby at_73) (pc' := 74) rfl rfl rfl ?_
      refine gLoadIN X7 hx (hb hby at_74) (pc' := 75) rfl rfl ?_
      refine gCallVJ X7 hx hZ (y := (⟨"com/example/clausewright/clausewright/outline/Outline$Span", "contains", "(I)Z"⟩ : MethodName)) hown e7 (by rw [hml]; rfl) Eq2 (hw _ (List.mem_of_getElem? (i := 18) rfl)) (hw _ (List.mem_of_getElem? (i := 19) rfl)) (hw _ (List.mem_of_getElem? (i := 21) rfl)) (hw _ (List.mem_of_getElem? (i := 20) rfl)) (hw _ (List.mem_of_getElem? (i := 2) rfl)) (hw _ (List.mem_of_getElem? (i := 22) rfl)) (by decide) (argsL := [(.int q1)]) (st := []) (c_contains l Z a0 hw b1 q1 _ _ _ Fs2 Fe2) (lenOf pd_1 rfl) (hb hby at_75) (pc' := 78) rfl rfl rfl rfl (by decide) (W := 0) (Nat.le_of_eq rfl) (by decide) (by decide) (by decide) ?_
      intro T8 X8 e8
      refine gStoreI X8 hx (hb hby at_78) (l' := #[.val (.int p0), .val (.int q1), .val (.int q2), .val (.ref b1), .val (.long (p0.toInt64)), .second, .val (.long (q1.toInt64)), .second, .val (.long (q2.toInt64)), .second, .val (.int (0 : Int32)), .val (.int (1 : Int32)), .val (.int (b2i (decide (p0.toInt ≤ q2.toInt ∧ q2.toInt < q1.toInt)))), .val (.int (b2i (decide (p0.toInt ≤ q1.toInt ∧ q1.toInt < q1.toInt)))), .unset, .unset]) (pc' := 80) rfl rfl ?_
      refine gLoadAN X8 hx (hb hby at_80) (pc' := 81) rfl rfl rfl ?_
      refine gLoadIN X8 hx (hb hby at_81) (pc' := 82) rfl rfl ?_
      refine gCallVJ X8 hx hZ (y := (⟨"com/example/clausewright/clausewright/outline/Outline$Span", "contains", "(I)Z"⟩ : MethodName)) hown e8 (by rw [hml]; rfl) Eq2 (hw _ (List.mem_of_getElem? (i := 18) rfl)) (hw _ (List.mem_of_getElem? (i := 19) rfl)) (hw _ (List.mem_of_getElem? (i := 21) rfl)) (hw _ (List.mem_of_getElem? (i := 20) rfl)) (hw _ (List.mem_of_getElem? (i := 2) rfl)) (hw _ (List.mem_of_getElem? (i := 22) rfl)) (by decide) (argsL := [(.int p0)]) (st := []) (c_contains l Z a0 hw b1 p0 _ _ _ Fs2 Fe2) (lenOf pd_1 rfl) (hb hby at_82) (pc' := 85) rfl rfl rfl rfl (by decide) (W := 0) (Nat.le_of_eq rfl) (by decide) (by decide) (by decide) ?_
      intro T9 X9 e9
      refine gStoreI X9 hx (hb hby at_85) (l' := #[.val (.int p0), .val (.int q1), .val (.int q2), .val (.ref b1), .val (.long (p0.toInt64)), .second, .val (.long (q1.toInt64)), .second, .val (.long (q2.toInt64)), .second, .val (.int (0 : Int32)), .val (.int (1 : Int32)), .val (.int (b2i (decide (p0.toInt ≤ q2.toInt ∧ q2.toInt < q1.toInt)))), .val (.int (b2i (decide (p0.toInt ≤ q1.toInt ∧ q1.toInt < q1.toInt)))), .val (.int (b2i (decide (p0.toInt ≤ p0.toInt ∧ p0.toInt < q1.toInt)))), .unset]) (pc' := 87) rfl rfl ?_
      refine gLoadAN X9 hx (hb hby at_87) (pc' := 88) rfl rfl rfl ?_
      refine gLoadIN X9 hx (hb hby at_88) (pc' := 89) rfl rfl ?_
      refine gIconst X9 hx (v := (1 : Int32)) (hb hby at_89) (pc' := 90) rfl rfl ?_
      refine gIsub X9 hx (hb hby at_90) (pc' := 91) rfl ?_
      refine gCallVJ X9 hx hZ (y := (⟨"com/example/clausewright/clausewright/outline/Outline$Span", "contains", "(I)Z"⟩ : MethodName)) hown e9 (by rw [hml]; rfl) Eq2 (hw _ (List.mem_of_getElem? (i := 18) rfl)) (hw _ (List.mem_of_getElem? (i := 19) rfl)) (hw _ (List.mem_of_getElem? (i := 21) rfl)) (hw _ (List.mem_of_getElem? (i := 20) rfl)) (hw _ (List.mem_of_getElem? (i := 2) rfl)) (hw _ (List.mem_of_getElem? (i := 22) rfl)) (by decide) (argsL := [(.int (q1 - (1 : Int32)))]) (st := []) (c_contains l Z a0 hw b1 (q1 - (1 : Int32)) _ _ _ Fs2 Fe2) (lenOf pd_1 rfl) (hb hby at_91) (pc' := 94) rfl rfl rfl rfl (by decide) (W := 0) (Nat.le_of_eq rfl) (by decide) (by decide) (by decide) ?_
      intro T10 X10 e10
      refine gStoreI X10 hx (hb hby at_94) (l' := #[.val (.int p0), .val (.int q1), .val (.int q2), .val (.ref b1), .val (.long (p0.toInt64)), .second, .val (.long (q1.toInt64)), .second, .val (.long (q2.toInt64)), .second, .val (.int (0 : Int32)), .val (.int (1 : Int32)), .val (.int (b2i (decide (p0.toInt ≤ q2.toInt ∧ q2.toInt < q1.toInt)))), .val (.int (b2i (decide (p0.toInt ≤ q1.toInt ∧ q1.toInt < q1.toInt)))), .val (.int (b2i (decide (p0.toInt ≤ p0.toInt ∧ p0.toInt < q1.toInt)))), .val (.int (b2i (decide (p0.toInt ≤ (q1 - (1 : Int32)).toInt ∧ (q1 - (1 : Int32)).toInt < q1.toInt))))]) (pc' := 96) rfl rfl ?_
      refine gLoadI X10 hx (hb hby at_96) (pc' := 98) rfl rfl ?_
      refine gLoadI X10 hx (hb hby at_98) (pc' := 100) rfl rfl ?_
      refine gIcmpNe X10 hx (hb hby at_100) (pc' := 126) (by decide) (by decide) (pn := 103) rfl (fun (c100 : ¬ (b2i (decide (p0.toInt ≤ q2.toInt ∧ q2.toInt < q1.toInt))) = (0 : Int32)) => ?_) (fun (c100 : (b2i (decide (p0.toInt ≤ q2.toInt ∧ q2.toInt < q1.toInt))) = (0 : Int32)) => ?_)
      · exact absurd (b2_f (by have r0 := p0.toInt_lt; have r1 := p0.le_toInt; have r2 := q1.toInt_lt; have r3 := q1.le_toInt; have r4 := q2.toInt_lt; have r5 := q2.le_toInt; omega)) c100
      · refine gLoadI X10 hx (hb hby at_103) (pc' := 105) rfl rfl ?_
        refine gIfNe X10 hx (hb hby at_105) (pc' := 126) (by decide) (by decide) (pn := 108) rfl (fun (c105 : ¬ (b2i (decide (p0.toInt ≤ q1.toInt ∧ q1.toInt < q1.toInt))) = (0 : Int32)) => ?_) (fun (c105 : (b2i (decide (p0.toInt ≤ q1.toInt ∧ q1.toInt < q1.toInt))) = (0 : Int32)) => ?_)
        · exact absurd (b2_f (by omega)) c105
        · refine gLoadI X10 hx (hb hby at_108) (pc' := 110) rfl rfl ?_
          refine gLoadI X10 hx (hb hby at_110) (pc' := 112) rfl rfl ?_
          refine gIcmpNe X10 hx (hb hby at_112) (pc' := 126) (by decide) (by decide) (pn := 115) rfl (fun (c112 : ¬ (b2i (decide (p0.toInt ≤ p0.toInt ∧ p0.toInt < q1.toInt))) = (1 : Int32)) => ?_) (fun (c112 : (b2i (decide (p0.toInt ≤ p0.toInt ∧ p0.toInt < q1.toInt))) = (1 : Int32)) => ?_)
          · exact absurd (b2_t (by have r0 := p0.toInt_lt; have r1 := p0.le_toInt; have r2 := q1.toInt_lt; have r3 := q1.le_toInt; have r4 := q2.toInt_lt; have r5 := q2.le_toInt; omega)) c112
          · refine gLoadI X10 hx (hb hby at_115) (pc' := 117) rfl rfl ?_
            refine gLoadI X10 hx (hb hby at_117) (pc' := 119) rfl rfl ?_
            refine gIcmpNe X10 hx (hb hby at_119) (pc' := 126) (by decide) (by decide) (pn := 122) rfl (fun (c119 : ¬ (b2i (decide (p0.toInt ≤ (q1 - (1 : Int32)).toInt ∧ (q1 - (1 : Int32)).toInt < q1.toInt))) = (1 : Int32)) => ?_) (fun (c119 : (b2i (decide (p0.toInt ≤ (q1 - (1 : Int32)).toInt ∧ (q1 - (1 : Int32)).toInt < q1.toInt))) = (1 : Int32)) => ?_)
            · exact absurd (b2_t (by have r0 := p0.toInt_lt; have r1 := p0.le_toInt; have r2 := q1.toInt_lt; have r3 := q1.le_toInt; have r4 := q2.toInt_lt; have r5 := q2.le_toInt; have z := c_isub q1 1; have z1 : (1 : Int32).toInt = 1 := rfl; have r6 := (q1 - 1).toInt_lt; have r7 := (q1 - 1).le_toInt; omega)) c119
            · refine gIconst X10 hx (v := (1 : Int32)) (hb hby at_122) (pc' := 123) rfl rfl ?_
              refine gGoto X10 hx (hb hby at_123) (pc' := 127) (by decide) (by decide) ?_
              exact gRetN X10 hx hlk hret (by simp) (hb hby at_127) (w := (1 : Int32)) rfl (by decide) (by decide) (⟨rfl, N2⟩)
  · refine gLoadJ X2 hx (hb hby at_32) (pc' := 34) rfl rfl ?_
    refine gLoadJ X2 hx (hb hby at_34) (pc' := 36) rfl rfl ?_
    refine gLsub X2 hx (hb hby at_36) (pc' := 37) rfl ?_
    refine gLconst X2 hx (v := (0 : Int64)) (hb hby at_37) (pc' := 38) rfl rfl ?_
    refine gLcmp X2 hx (hb hby at_38) (pc' := 39) rfl ?_
    refine gLIfLe X2 hx (hb hby at_39) (pc' := 46) (by decide) (by decide) (pn := 42) rfl (fun (c39 : ((q1.toInt64) - (q2.toInt64)).toInt ≤ (0 : Int)) => ?_) (fun (c39 : (0 : Int) < ((q1.toInt64) - (q2.toInt64)).toInt) => ?_)
    · refine gIconst X2 hx (v := (0 : Int32)) (hb hby at_46) (pc' := 47) rfl rfl ?_
      refine gStoreI X2 hx (hb hby at_47) (l' := #[.val (.int p0), .val (.int q1), .val (.int q2), .val (.ref b1), .val (.long (p0.toInt64)), .second, .val (.long (q1.toInt64)), .second, .val (.long (q2.toInt64)), .second, .val (.int (0 : Int32)), .unset, .unset, .unset, .unset, .unset]) (pc' := 49) rfl rfl ?_
      refine gLoadJ X2 hx (hb hby at_49) (pc' := 51) rfl rfl ?_
      refine gLoadJ X2 hx (hb hby at_51) (pc' := 53) rfl rfl ?_
      refine gLsub X2 hx (hb hby at_53) (pc' := 54) rfl ?_
      refine gLconst X2 hx (v := (0 : Int64)) (hb hby at_54) (pc' := 55) rfl rfl ?_
      refine gLcmp X2 hx (hb hby at_55) (pc' := 56) rfl ?_
      refine gLIfLe X2 hx (hb hby at_56) (pc' := 63) (by decide) (by decide) (pn := 59) rfl (fun (c56 : ((q1.toInt64) - (p0.toInt64)).toInt ≤ (0 : Int)) => ?_) (fun (c56 : (0 : Int) < ((q1.toInt64) - (p0.toInt64)).toInt) => ?_)
      · refine gIconst X2 hx (v := (0 : Int32)) (hb hby at_63) (pc' := 64) rfl rfl ?_
        refine gStoreI X2 hx (hb hby at_64) (l' := #[.val (.int p0), .val (.int q1), .val (.int q2), .val (.ref b1), .val (.long (p0.toInt64)), .second, .val (.long (q1.toInt64)), .second, .val (.long (q2.toInt64)), .second, .val (.int (0 : Int32)), .val (.int (0 : Int32)), .unset, .unset, .unset, .unset]) (pc' := 66) rfl rfl ?_
        refine gLoadAN X2 hx (hb hby at_66) (pc' := 67) rfl rfl rfl ?_
        refine gLoadIN X2 hx (hb hby at_67) (pc' := 68) rfl rfl ?_
        refine gCallVJ X2 hx hZ (y := (⟨"com/example/clausewright/clausewright/outline/Outline$Span", "contains", "(I)Z"⟩ : MethodName)) hown rfl (by rw [hml]; rfl) Eq2 (hw _ (List.mem_of_getElem? (i := 18) rfl)) (hw _ (List.mem_of_getElem? (i := 19) rfl)) (hw _ (List.mem_of_getElem? (i := 21) rfl)) (hw _ (List.mem_of_getElem? (i := 20) rfl)) (hw _ (List.mem_of_getElem? (i := 2) rfl)) (hw _ (List.mem_of_getElem? (i := 22) rfl)) (by decide) (argsL := [(.int q2)]) (st := []) (c_contains l Z a0 hw b1 q2 _ _ _ Fs2 Fe2) (lenOf pd_1 rfl) (hb hby at_68) (pc' := 71) rfl rfl rfl rfl (by decide) (W := 0) (Nat.le_of_eq rfl) (by decide) (by decide) (by decide) ?_
        intro T11 X11 e11
        refine gStoreI X11 hx (hb hby at_71) (l' := #[.val (.int p0), .val (.int q1), .val (.int q2), .val (.ref b1), .val (.long (p0.toInt64)), .second, .val (.long (q1.toInt64)), .second, .val (.long (q2.toInt64)), .second, .val (.int (0 : Int32)), .val (.int (0 : Int32)), .val (.int (b2i (decide (p0.toInt ≤ q2.toInt ∧ q2.toInt < q1.toInt)))), .unset, .unset, .unset]) (pc' := 73) rfl rfl ?_
        refine gLoadAN X11 hx (hb hby at_73) (pc' := 74) rfl rfl rfl ?_
        refine gLoadIN X11 hx (hb hby at_74) (pc' := 75) rfl rfl ?_
        refine gCallVJ X11 hx hZ (y := (⟨"com/example/clausewright/clausewright/outline/Outline$Span", "contains", "(I)Z"⟩ : MethodName)) hown e11 (by rw [hml]; rfl) Eq2 (hw _ (List.mem_of_getElem? (i := 18) rfl)) (hw _ (List.mem_of_getElem? (i := 19) rfl)) (hw _ (List.mem_of_getElem? (i := 21) rfl)) (hw _ (List.mem_of_getElem? (i := 20) rfl)) (hw _ (List.mem_of_getElem? (i := 2) rfl)) (hw _ (List.mem_of_getElem? (i := 22) rfl)) (by decide) (argsL := [(.int q1)]) (st := []) (c_contains l Z a0 hw b1 q1 _ _ _ Fs2 Fe2) (lenOf pd_1 rfl) (hb hby at_75) (pc' := 78) rfl rfl rfl rfl (by decide) (W := 0) (Nat.le_of_eq rfl) (by decide) (by decide) (by decide) ?_
        intro T12 X12 e12
        refine gStoreI X12 hx (hb hby at_78) (l' := #[.val (.int p0), .val (.int q1), .val (.int q2), .val (.ref b1), .val (.long (p0.toInt64)), .second, .val (.long (q1.toInt64)), .second, .val (.long (q2.toInt64)), .second, .val (.int (0 : Int32)), .val (.int (0 : Int32)), .val (.int (b2i (decide (p0.toInt ≤ q2.toInt ∧ q2.toInt < q1.toInt)))), .val (.int (b2i (decide (p0.toInt ≤ q1.toInt ∧ q1.toInt < q1.toInt)))), .unset, .unset]) (pc' := 80) rfl rfl ?_
        refine gLoadAN X12 hx (hb hby at_80) (pc' := 81) rfl rfl rfl ?_
        refine gLoadIN X12 hx (hb hby at_81) (pc' := 82) rfl rfl ?_
        refine gCallVJ X12 hx hZ (y := (⟨"com/example/clausewright/clausewright/outline/Outline$Span", "contains", "(I)Z"⟩ : MethodName)) hown e12 (by rw [hml]; rfl) Eq2 (hw _ (List.mem_of_getElem? (i := 18) rfl)) (hw _ (List.mem_of_getElem? (i := 19) rfl)) (hw _ (List.mem_of_getElem? (i := 21) rfl)) (hw _ (List.mem_of_getElem? (i := 20) rfl)) (hw _ (List.mem_of_getElem? (i := 2) rfl)) (hw _ (List.mem_of_getElem? (i := 22) rfl)) (by decide) (argsL := [(.int p0)]) (st := []) (c_contains l Z a0 hw b1 p0 _ _ _ Fs2 Fe2) (lenOf pd_1 rfl) (hb hby at_82) (pc' := 85) rfl rfl rfl rfl (by decide) (W := 0) (Nat.le_of_eq rfl) (by decide) (by decide) (by decide) ?_
        intro T13 X13 e13
        refine gStoreI X13 hx (hb hby at_85) (l' := #[.val (.int p0), .val (.int q1), .val (.int q2), .val (.ref b1), .val (.long (p0.toInt64)), .second, .val (.long (q1.toInt64)), .second, .val (.long (q2.toInt64)), .second, .val (.int (0 : Int32)), .val (.int (0 : Int32)), .val (.int (b2i (decide (p0.toInt ≤ q2.toInt ∧ q2.toInt < q1.toInt)))), .val (.int (b2i (decide (p0.toInt ≤ q1.toInt ∧ q1.toInt < q1.toInt)))), .val (.int (b2i (decide (p0.toInt ≤ p0.toInt ∧ p0.toInt < q1.toInt)))), .unset]) (pc' := 87) rfl rfl ?_
        refine gLoadAN X13 hx (hb hby at_87) (pc' := 88) rfl rfl rfl ?_
        refine gLoadIN X13 hx (hb hby at_88) (pc' := 89) rfl rfl ?_
        refine gIconst X13 hx (v := (1 : Int32)) (hb hby at_89) (pc' := 90) rfl rfl ?_
        refine gIsub X13 hx (hb hby at_90) (pc' := 91) rfl ?_
        refine gCallVJ X13 hx hZ (y := (⟨"com/example/clausewright/clausewright/outline/Outline$Span", "contains", "(I)Z"⟩ : MethodName)) hown e13 (by rw [hml]; rfl) Eq2 (hw _ (List.mem_of_getElem? (i := 18) rfl)) (hw _ (List.mem_of_getElem? (i := 19) rfl)) (hw _ (List.mem_of_getElem? (i := 21) rfl)) (hw _ (List.mem_of_getElem? (i := 20) rfl)) (hw _ (List.mem_of_getElem? (i := 2) rfl)) (hw _ (List.mem_of_getElem? (i := 22) rfl)) (by decide) (argsL := [(.int (q1 - (1 : Int32)))]) (st := []) (c_contains l Z a0 hw b1 (q1 - (1 : Int32)) _ _ _ Fs2 Fe2) (lenOf pd_1 rfl) (hb hby at_91) (pc' := 94) rfl rfl rfl rfl (by decide) (W := 0) (Nat.le_of_eq rfl) (by decide) (by decide) (by decide) ?_
        intro T14 X14 e14
        refine gStoreI X14 hx (hb hby at_94) (l' := #[.val (.int p0), .val (.int q1), .val (.int q2), .val (.ref b1), .val (.long (p0.toInt64)), .second, .val (.long (q1.toInt64)), .second, .val (.long (q2.toInt64)), .second, .val (.int (0 : Int32)), .val (.int (0 : Int32)), .val (.int (b2i (decide (p0.toInt ≤ q2.toInt ∧ q2.toInt < q1.toInt)))), .val (.int (b2i (decide (p0.toInt ≤ q1.toInt ∧ q1.toInt < q1.toInt)))), .val (.int (b2i (decide (p0.toInt ≤ p0.toInt ∧ p0.toInt < q1.toInt)))), .val (.int (b2i (decide (p0.toInt ≤ (q1 - (1 : Int32)).toInt ∧ (q1 - (1 : Int32)).toInt < q1.toInt))))]) (pc' := 96) rfl rfl ?_
        refine gLoadI X14 hx (hb hby at_96) (pc' := 98) rfl rfl ?_
        refine gLoadI X14 hx (hb hby at_98) (pc' := 100) rfl rfl ?_
        refine gIcmpNe X14 hx (hb hby at_100) (pc' := 126) (by decide) (by decide) (pn := 103) rfl (fun (c100 : ¬ (b2i (decide (p0.toInt ≤ q2.toInt ∧ q2.toInt < q1.toInt))) = (0 : Int32)) => ?_) (fun (c100 : (b2i (decide (p0.toInt ≤ q2.toInt ∧ q2.toInt < q1.toInt))) = (0 : Int32)) => ?_)
        · exact absurd (b2_f (by have r0 := p0.toInt_lt; have r1 := p0.le_toInt; have r2 := q1.toInt_lt; have r3 := q1.le_toInt; have r4 := q2.toInt_lt; have r5 := q2.le_toInt; omega)) c100
        · refine gLoadI X14 hx (hb hby at_103) (pc' := 105) rfl rfl ?_
          refine gIfNe X14 hx (hb hby at_105) (pc' := 126) (by decide) (by decide) (pn := 108) rfl (fun (c105 : ¬ (b2i (decide (p0.toInt ≤ q1.toInt ∧ q1.toInt < q1.toInt))) = (0 : Int32)) => ?_) (fun (c105 : (b2i (decide (p0.toInt ≤ q1.toInt ∧ q1.toInt < q1.toInt))) = (0 : Int32)) => ?_)
          · exact absurd (b2_f (by omega)) c105
          · refine gLoadI X14 hx (hb hby at_108) (pc' := 110) rfl rfl ?_
            refine gLoadI X14 hx (hb hby at_110) (pc' := 112) rfl rfl ?_
            refine gIcmpNe X14 hx (hb hby at_112) (pc' := 126) (by decide) (by decide) (pn := 115) rfl (fun (c112 : ¬ (b2i (decide (p0.toInt ≤ p0.toInt ∧ p0.toInt < q1.toInt))) = (0 : Int32)) => ?_) (fun (c112 : (b2i (decide (p0.toInt ≤ p0.toInt ∧ p0.toInt < q1.toInt))) = (0 : Int32)) => ?_)
            · exact absurd (b2_f (by have r0 := p0.toInt_lt; have r1 := p0.le_toInt; have r2 := q1.toInt_lt; have r3 := q1.le_toInt; have r4 := q2.toInt_lt; have r5 := q2.le_toInt; omega)) c112
            · refine gLoadI X14 hx (hb hby at_115) (pc' := 117) rfl rfl ?_
              refine gLoadI X14 hx (hb hby at_117) (pc' := 119) rfl rfl ?_
              refine gIcmpNe X14 hx (hb hby at_119) (pc' := 126) (by decide) (by decide) (pn := 122) rfl (fun (c119 : ¬ (b2i (decide (p0.toInt ≤ (q1 - (1 : Int32)).toInt ∧ (q1 - (1 : Int32)).toInt < q1.toInt))) = (0 : Int32)) => ?_) (fun (c119 : (b2i (decide (p0.toInt ≤ (q1 - (1 : Int32)).toInt ∧ (q1 - (1 : Int32)).toInt < q1.toInt))) = (0 : Int32)) => ?_)
              · exact absurd (b2_f (by have r0 := p0.toInt_lt; have r1 := p0.le_toInt; have r2 := q1.toInt_lt; have r3 := q1.le_toInt; have r4 := q2.toInt_lt; have r5 := q2.le_toInt; have z := c_isub q1 1; have z1 : (1 : Int32).toInt = 1 := rfl; have r6 := (q1 - 1).toInt_lt; have r7 := (q1 - 1).le_toInt; omega)) c119
              · refine gIconst X14 hx (v := (1 : Int32)) (hb hby at_122) (pc' := 123) rfl rfl ?_
                refine gGoto X14 hx (hb hby at_123) (pc' := 127) (by decide) (by decide) ?_
                exact gRetN X14 hx hlk hret (by simp) (hb hby at_127) (w := (1 : Int32)) rfl (by decide) (by decide) (⟨rfl, N2⟩)
      · refine gIconst X2 hx (v := (1 : Int32)) (hb hby at_59) (pc' := 60) rfl rfl ?_
        refine gGoto X2 hx (hb hby at_60) (pc' := 64) (by decide) (by decide) ?_
        refine gStoreI X2 hx (hb hby at_64) (l' := #[.val (.int p0), .val (.int q1), .val (.int q2), .val (.ref b1), .val (.long (p0.toInt64)), .second, .val (.long (q1.toInt64)), .second, .val (.long (q2.toInt64)), .second, .val (.int (0 : Int32)), .val (.int (1 : Int32)), .unset, .unset, .unset, .unset]) (pc' := 66) rfl rfl ?_
        refine gLoadAN X2 hx (hb hby at_66) (pc' := 67) rfl rfl rfl ?_
        refine gLoadIN X2 hx (hb hby at_67) (pc' := 68) rfl rfl ?_
        refine gCallVJ X2 hx hZ (y := (⟨"com/example/clausewright/clausewright/outline/Outline$Span", "contains", "(I)Z"⟩ : MethodName)) hown rfl (by rw [hml]; rfl) Eq2 (hw _ (List.mem_of_getElem? (i := 18) rfl)) (hw _ (List.mem_of_getElem? (i := 19) rfl)) (hw _ (List.mem_of_getElem? (i := 21) rfl)) (hw _ (List.mem_of_getElem? (i := 20) rfl)) (hw _ (List.mem_of_getElem? (i := 2) rfl)) (hw _ (List.mem_of_getElem? (i := 22) rfl)) (by decide) (argsL := [(.int q2)]) (st := []) (c_contains l Z a0 hw b1 q2 _ _ _ Fs2 Fe2) (lenOf pd_1 rfl) (hb hby at_68) (pc' := 71) rfl rfl rfl rfl (by decide) (W := 0) (Nat.le_of_eq rfl) (by decide) (by decide) (by decide) ?_
        intro T15 X15 e15
        refine gStoreI X15 hx (hb hby at_71) (l' := #[.val (.int p0), .val (.int q1), .val (.int q2), .val (.ref b1), .val (.long (p0.toInt64)), .second, .val (.long (q1.toInt64)), .second, .val (.long (q2.toInt64)), .second, .val (.int (0 : Int32)), .val (.int (1 : Int32)), .val (.int (b2i (decide (p0.toInt ≤ q2.toInt ∧ q2.toInt < q1.toInt)))), .unset, .unset, .unset]) (pc' := 73) rfl rfl ?_
        refine gLoadAN X15 hx (hb hby at_73) (pc' := 74) rfl rfl rfl ?_
        refine gLoadIN X15 hx (hb hby at_74) (pc' := 75) rfl rfl ?_
        refine gCallVJ X15 hx hZ (y := (⟨"com/example/clausewright/clausewright/outline/Outline$Span", "contains", "(I)Z"⟩ : MethodName)) hown e15 (by rw [hml]; rfl) Eq2 (hw _ (List.mem_of_getElem? (i := 18) rfl)) (hw _ (List.mem_of_getElem? (i := 19) rfl)) (hw _ (List.mem_of_getElem? (i := 21) rfl)) (hw _ (List.mem_of_getElem? (i := 20) rfl)) (hw _ (List.mem_of_getElem? (i := 2) rfl)) (hw _ (List.mem_of_getElem? (i := 22) rfl)) (by decide) (argsL := [(.int q1)]) (st := []) (c_contains l Z a0 hw b1 q1 _ _ _ Fs2 Fe2) (lenOf pd_1 rfl) (hb hby at_75) (pc' := 78) rfl rfl rfl rfl (by decide) (W := 0) (Nat.le_of_eq rfl) (by decide) (by decide) (by decide) ?_
        intro T16 X16 e16
        refine gStoreI X16 hx (hb hby at_78) (l' := #[.val (.int p0), .val (.int q1), .val (.int q2), .val (.ref b1), .val (.long (p0.toInt64)), .second, .val (.long (q1.toInt64)), .second, .val (.long (q2.toInt64)), .second, .val (.int (0 : Int32)), .val (.int (1 : Int32)), .val (.int (b2i (decide (p0.toInt ≤ q2.toInt ∧ q2.toInt < q1.toInt)))), .val (.int (b2i (decide (p0.toInt ≤ q1.toInt ∧ q1.toInt < q1.toInt)))), .unset, .unset]) (pc' := 80) rfl rfl ?_
        refine gLoadAN X16 hx (hb hby at_80) (pc' := 81) rfl rfl rfl ?_
        refine gLoadIN X16 hx (hb hby at_81) (pc' := 82) rfl rfl ?_
        refine gCallVJ X16 hx hZ (y := (⟨"com/example/clausewright/clausewright/outline/Outline$Span", "contains", "(I)Z"⟩ : MethodName)) hown e16 (by rw [hml]; rfl) Eq2 (hw _ (List.mem_of_getElem? (i := 18) rfl)) (hw _ (List.mem_of_getElem? (i := 19) rfl)) (hw _ (List.mem_of_getElem? (i := 21) rfl)) (hw _ (List.mem_of_getElem? (i := 20) rfl)) (hw _ (List.mem_of_getElem? (i := 2) rfl)) (hw _ (List.mem_of_getElem? (i := 22) rfl)) (by decide) (argsL := [(.int p0)]) (st := []) (c_contains l Z a0 hw b1 p0 _ _ _ Fs2 Fe2) (lenOf pd_1 rfl) (hb hby at_82) (pc' := 85) rfl rfl rfl rfl (by decide) (W := 0) (Nat.le_of_eq rfl) (by decide) (by decide) (by decide) ?_
        intro T17 X17 e17
        refine gStoreI X17 hx (hb hby at_85) (l' := #[.val (.int p0), .val (.int q1), .val (.int q2), .val (.ref b1), .val (.long (p0.toInt64)), .second, .val (.long (q1.toInt64)), .second, .val (.long (q2.toInt64)), .second, .val (.int (0 : Int32)), .val (.int (1 : Int32)), .val (.int (b2i (decide (p0.toInt ≤ q2.toInt ∧ q2.toInt < q1.toInt)))), .val (.int (b2i (decide (p0.toInt ≤ q1.toInt ∧ q1.toInt < q1.toInt)))), .val (.int (b2i (decide (p0.toInt ≤ p0.toInt ∧ p0.toInt < q1.toInt)))), .unset]) (pc' := 87) rfl rfl ?_
        refine gLoadAN X17 hx (hb hby at_87) (pc' := 88) rfl rfl rfl ?_
        refine gLoadIN X17 hx (hb hby at_88) (pc' := 89) rfl rfl ?_
        refine gIconst X17 hx (v := (1 : Int32)) (hb hby at_89) (pc' := 90) rfl rfl ?_
        refine gIsub X17 hx (hb hby at_90) (pc' := 91) rfl ?_
        refine gCallVJ X17 hx hZ (y := (⟨"com/example/clausewright/clausewright/outline/Outline$Span", "contains", "(I)Z"⟩ : MethodName)) hown e17 (by rw [hml]; rfl) Eq2 (hw _ (List.mem_of_getElem? (i := 18) rfl)) (hw _ (List.mem_of_getElem? (i := 19) rfl)) (hw _ (List.mem_of_getElem? (i := 21) rfl)) (hw _ (List.mem_of_getElem? (i := 20) rfl)) (hw _ (List.mem_of_getElem? (i := 2) rfl)) (hw _ (List.mem_of_getElem? (i := 22) rfl)) (by decide) (argsL := [(.int (q1 - (1 : Int32)))]) (st := []) (c_contains l Z a0 hw b1 (q1 - (1 : Int32)) _ _ _ Fs2 Fe2) (lenOf pd_1 rfl) (hb hby at_91) (pc' := 94) rfl rfl rfl rfl (by decide) (W := 0) (Nat.le_of_eq rfl) (by decide) (by decide) (by decide) ?_
        intro T18 X18 e18
        refine gStoreI X18 hx (hb hby at_94) (l' := #[.val (.int p0), .val (.int q1), .val (.int q2), .val (.ref b1), .val (.long (p0.toInt64)), .second, .val (.long (q1.toInt64)), .second, .val (.long (q2.toInt64)), .second, .val (.int (0 : Int32)), .val (.int (1 : Int32)), .val (.int (b2i (decide (p0.toInt ≤ q2.toInt ∧ q2.toInt < q1.toInt)))), .val (.int (b2i (decide (p0.toInt ≤ q1.toInt ∧ q1.toInt < q1.toInt)))), .val (.int (b2i (decide (p0.toInt ≤ p0.toInt ∧ p0.toInt < q1.toInt)))), .val (.int (b2i (decide (p0.toInt ≤ (q1 - (1 : Int32)).toInt ∧ (q1 - (1 : Int32)).toInt < q1.toInt))))]) (pc' := 96) rfl rfl ?_
        refine gLoadI X18 hx (hb hby at_96) (pc' := 98) rfl rfl ?_
        refine gLoadI X18 hx (hb hby at_98) (pc' := 100) rfl rfl ?_
        refine gIcmpNe X18 hx (hb hby at_100) (pc' := 126) (by decide) (by decide) (pn := 103) rfl (fun (c100 : ¬ (b2i (decide (p0.toInt ≤ q2.toInt ∧ q2.toInt < q1.toInt))) = (0 : Int32)) => ?_) (fun (c100 : (b2i (decide (p0.toInt ≤ q2.toInt ∧ q2.toInt < q1.toInt))) = (0 : Int32)) => ?_)
        · exact absurd (b2_f (by have r0 := p0.toInt_lt; have r1 := p0.le_toInt; have r2 := q1.toInt_lt; have r3 := q1.le_toInt; have r4 := q2.toInt_lt; have r5 := q2.le_toInt; omega)) c100
        · refine gLoadI X18 hx (hb hby at_103) (pc' := 105) rfl rfl ?_
          refine gIfNe X18 hx (hb hby at_105) (pc' := 126) (by decide) (by decide) (pn := 108) rfl (fun (c105 : ¬ (b2i (decide (p0.toInt ≤ q1.toInt ∧ q1.toInt < q1.toInt))) = (0 : Int32)) => ?_) (fun (c105 : (b2i (decide (p0.toInt ≤ q1.toInt ∧ q1.toInt < q1.toInt))) = (0 : Int32)) => ?_)
          · exact absurd (b2_f (by omega)) c105
          · refine gLoadI X18 hx (hb hby at_108) (pc' := 110) rfl rfl ?_
            refine gLoadI X18 hx (hb hby at_110) (pc' := 112) rfl rfl ?_
            refine gIcmpNe X18 hx (hb hby at_112) (pc' := 126) (by decide) (by decide) (pn := 115) rfl (fun (c112 : ¬ (b2i (decide (p0.toInt ≤ p0.toInt ∧ p0.toInt < q1.toInt))) = (1 : Int32)) => ?_) (fun (c112 : (b2i (decide (p0.toInt ≤ p0.toInt ∧ p0.toInt < q1.toInt))) = (1 : Int32)) => ?_)
            · exact absurd (b2_t (by have r0 := p0.toInt_lt; have r1 := p0.le_toInt; have r2 := q1.toInt_lt; have r3 := q1.le_toInt; have r4 := q2.toInt_lt; have r5 := q2.le_toInt; omega)) c112
            · refine gLoadI X18 hx (hb hby at_115) (pc' := 117) rfl rfl ?_
              refine gLoadI X18 hx (hb hby at_117) (pc' := 119) rfl rfl ?_
              refine gIcmpNe X18 hx (hb hby at_119) (pc' := 126) (by decide) (by decide) (pn := 122) rfl (fun (c119 : ¬ (b2i (decide (p0.toInt ≤ (q1 - (1 : Int32)).toInt ∧ (q1 - (1 : Int32)).toInt < q1.toInt))) = (1 : Int32)) => ?_) (fun (c119 : (b2i (decide (p0.toInt ≤ (q1 - (1 : Int32)).toInt ∧ (q1 - (1 : Int32)).toInt < q1.toInt))) = (1 : Int32)) => ?_)
              · exact absurd (b2_t (by have r0 := p0.toInt_lt; have r1 := p0.le_toInt; have r2 := q1.toInt_lt; have r3 := q1.le_toInt; have r4 := q2.toInt_lt; have r5 := q2.le_toInt; have z := c_isub q1 1; have z1 : (1 : Int32).toInt = 1 := rfl; have r6 := (q1 - 1).toInt_lt; have r7 := (q1 - 1).le_toInt; omega)) c119
              · refine gIconst X18 hx (v := (1 : Int32)) (hb hby at_122) (pc' := 123) rfl rfl ?_
                refine gGoto X18 hx (hb hby at_123) (pc' := 127) (by decide) (by decide) ?_
                exact gRetN X18 hx hlk hret (by simp) (hb hby at_127) (w := (1 : Int32)) rfl (by decide) (by decide) (⟨rfl, N2⟩)
    · refine gIconst X2 hx (v := (1 : Int32)) (hb hby at_42) (pc' := 43) rfl rfl ?_
      refine gGoto X2 hx (hb hby at_43) (pc' := 47) (by decide) (by decide) ?_
      refine gStoreI X2 hx (hb hby at_47) (l' := #[.val (.int p0), .val (.int q1), .val (.int q2), .val (.ref b1), .val (.long (p0.toInt64)), .second, .val (.long (q1.toInt64)), .second, .val (.long (q2.toInt64)), .second, .val (.int (1 : Int32)), .unset, .unset, .unset, .unset, .unset]) (pc' := 49) rfl rfl ?_
      refine gLoadJ X2 hx (hb hby at_49) (pc' := 51) rfl rfl ?_
      refine gLoadJ X2 hx (hb hby at_51) (pc' := 53) rfl rfl ?_
      refine gLsub X2 hx (hb hby at_53) (pc' := 54) rfl ?_
      refine gLconst X2 hx (v := (0 : Int64)) (hb hby at_54) (pc' := 55) rfl rfl ?_
      refine gLcmp X2 hx (hb hby at_55) (pc' := 56) rfl ?_
      refine gLIfLe X2 hx (hb hby at_56) (pc' := 63) (by decide) (by decide) (pn := 59) rfl (fun (c56 : ((q1.toInt64) - (p0.toInt64)).toInt ≤ (0 : Int)) => ?_) (fun (c56 : (0 : Int) < ((q1.toInt64) - (p0.toInt64)).toInt) => ?_)
      · refine gIconst X2 hx (v := (0 : Int32)) (hb hby at_63) (pc' := 64) rfl rfl ?_
        refine gStoreI X2 hx (hb hby at_64) (l' := #[.val (.int p0), .val (.int q1), .val (.int q2), .val (.ref b1), .val (.long (p0.toInt64)), .second, .val (.long (q1.toInt64)), .second, .val (.long (q2.toInt64)), .second, .val (.int (1 : Int32)), .val (.int (0 : Int32)), .unset, .unset, .unset, .unset]) (pc' := 66) rfl rfl ?_
        refine gLoadAN X2 hx (hb hby at_66) (pc' := 67) rfl rfl rfl ?_
        refine gLoadIN X2 hx (hb hby at_67) (pc' := 68) rfl rfl ?_
        refine gCallVJ X2 hx hZ (y := (⟨"com/example/clausewright/clausewright/outline/Outline$Span", "contains", "(I)Z"⟩ : MethodName)) hown rfl (by rw [hml]; rfl) Eq2 (hw _ (List.mem_of_getElem? (i := 18) rfl)) (hw _ (List.mem_of_getElem? (i := 19) rfl)) (hw _ (List.mem_of_getElem? (i := 21) rfl)) (hw _ (List.mem_of_getElem? (i := 20) rfl)) (hw _ (List.mem_of_getElem? (i := 2) rfl)) (hw _ (List.mem_of_getElem? (i := 22) rfl)) (by decide) (argsL := [(.int q2)]) (st := []) (c_contains l Z a0 hw b1 q2 _ _ _ Fs2 Fe2) (lenOf pd_1 rfl) (hb hby at_68) (pc' := 71) rfl rfl rfl rfl (by decide) (W := 0) (Nat.le_of_eq rfl) (by decide) (by decide) (by decide) ?_
        intro T19 X19 e19
        refine gStoreI X19 hx (hb hby at_71) (l' := #[.val (.int p0), .val (.int q1), .val (.int q2), .val (.ref b1), .val (.long (p0.toInt64)), .second, .val (.long (q1.toInt64)), .second, .val (.long (q2.toInt64)), .second, .val (.int (1 : Int32)), .val (.int (0 : Int32)), .val (.int (b2i (decide (p0.toInt ≤ q2.toInt ∧ q2.toInt < q1.toInt)))), .unset, .unset, .unset]) (pc' := 73) rfl rfl ?_
        refine gLoadAN X19 hx (hb hby at_73) (pc' := 74) rfl rfl rfl ?_
        refine gLoadIN X19 hx (hb hby at_74) (pc' := 75) rfl rfl ?_
        refine gCallVJ X19 hx hZ (y := (⟨"com/example/clausewright/clausewright/outline/Outline$Span", "contains", "(I)Z"⟩ : MethodName)) hown e19 (by rw [hml]; rfl) Eq2 (hw _ (List.mem_of_getElem? (i := 18) rfl)) (hw _ (List.mem_of_getElem? (i := 19) rfl)) (hw _ (List.mem_of_getElem? (i := 21) rfl)) (hw _ (List.mem_of_getElem? (i := 20) rfl)) (hw _ (List.mem_of_getElem? (i := 2) rfl)) (hw _ (List.mem_of_getElem? (i := 22) rfl)) (by decide) (argsL := [(.int q1)]) (st := []) (c_contains l Z a0 hw b1 q1 _ _ _ Fs2 Fe2) (lenOf pd_1 rfl) (hb hby at_75) (pc' := 78) rfl rfl rfl rfl (by decide) (W := 0) (Nat.le_of_eq rfl) (by decide) (by decide) (by decide) ?_
        intro T20 X20 e20
        refine gStoreI X20 hx (hb hby at_78) (l' := #[.val (.int p0), .val (.int q1), .val (.int q2), .val (.ref b1), .val (.long (p0.toInt64)), .second, .val (.long (q1.toInt64)), .second, .val (.long (q2.toInt64)), .second, .val (.int (1 : Int32)), .val (.int (0 : Int32)), .val (.int (b2i (decide (p0.toInt ≤ q2.toInt ∧ q2.toInt < q1.toInt)))), .val (.int (b2i (decide (p0.toInt ≤ q1.toInt ∧ q1.toInt < q1.toInt)))), .unset, .unset]) (pc' := 80) rfl rfl ?_
        refine gLoadAN X20 hx (hb hby at_80) (pc' := 81) rfl rfl rfl ?_
        refine gLoadIN X20 hx (hb hby at_81) (pc' := 82) rfl rfl ?_
        refine gCallVJ X20 hx hZ (y := (⟨"com/example/clausewright/clausewright/outline/Outline$Span", "contains", "(I)Z"⟩ : MethodName)) hown e20 (by rw [hml]; rfl) Eq2 (hw _ (List.mem_of_getElem? (i := 18) rfl)) (hw _ (List.mem_of_getElem? (i := 19) rfl)) (hw _ (List.mem_of_getElem? (i := 21) rfl)) (hw _ (List.mem_of_getElem? (i := 20) rfl)) (hw _ (List.mem_of_getElem? (i := 2) rfl)) (hw _ (List.mem_of_getElem? (i := 22) rfl)) (by decide) (argsL := [(.int p0)]) (st := []) (c_contains l Z a0 hw b1 p0 _ _ _ Fs2 Fe2) (lenOf pd_1 rfl) (hb hby at_82) (pc' := 85) rfl rfl rfl rfl (by decide) (W := 0) (Nat.le_of_eq rfl) (by decide) (by decide) (by decide) ?_
        intro T21 X21 e21
        refine gStoreI X21 hx (hb hby at_85) (l' := #[.val (.int p0), .val (.int q1), .val (.int q2), .val (.ref b1), .val (.long (p0.toInt64)), .second, .val (.long (q1.toInt64)), .second, .val (.long (q2.toInt64)), .second, .val (.int (1 : Int32)), .val (.int (0 : Int32)), .val (.int (b2i (decide (p0.toInt ≤ q2.toInt ∧ q2.toInt < q1.toInt)))), .val (.int (b2i (decide (p0.toInt ≤ q1.toInt ∧ q1.toInt < q1.toInt)))), .val (.int (b2i (decide (p0.toInt ≤ p0.toInt ∧ p0.toInt < q1.toInt)))), .unset]) (pc' := 87) rfl rfl ?_
        refine gLoadAN X21 hx (hb hby at_87) (pc' := 88) rfl rfl rfl ?_
        refine gLoadIN X21 hx (hb hby at_88) (pc' := 89) rfl rfl ?_
        refine gIconst X21 hx (v := (1 : Int32)) (hb hby at_89) (pc' := 90) rfl rfl ?_
        refine gIsub X21 hx (hb hby at_90) (pc' := 91) rfl ?_
        refine gCallVJ X21 hx hZ (y := (⟨"com/example/clausewright/clausewright/outline/Outline$Span", "contains", "(I)Z"⟩ : MethodName)) hown e21 (by rw [hml]; rfl) Eq2 (hw _ (List.mem_of_getElem? (i := 18) rfl)) (hw _ (List.mem_of_getElem? (i := 19) rfl)) (hw _ (List.mem_of_getElem? (i := 21) rfl)) (hw _ (List.mem_of_getElem? (i := 20) rfl)) (hw _ (List.mem_of_getElem? (i := 2) rfl)) (hw _ (List.mem_of_getElem? (i := 22) rfl)) (by decide) (argsL := [(.int (q1 - (1 : Int32)))]) (st := []) (c_contains l Z a0 hw b1 (q1 - (1 : Int32)) _ _ _ Fs2 Fe2) (lenOf pd_1 rfl) (hb hby at_91) (pc' := 94) rfl rfl rfl rfl (by decide) (W := 0) (Nat.le_of_eq rfl) (by decide) (by decide) (by decide) ?_
        intro T22 X22 e22
        refine gStoreI X22 hx (hb hby at_94) (l' := #[.val (.int p0), .val (.int q1), .val (.int q2), .val (.ref b1), .val (.long (p0.toInt64)), .second, .val (.long (q1.toInt64)), .second, .val (.long (q2.toInt64)), .second, .val (.int (1 : Int32)), .val (.int (0 : Int32)), .val (.int (b2i (decide (p0.toInt ≤ q2.toInt ∧ q2.toInt < q1.toInt)))), .val (.int (b2i (decide (p0.toInt ≤ q1.toInt ∧ q1.toInt < q1.toInt)))), .val (.int (b2i (decide (p0.toInt ≤ p0.toInt ∧ p0.toInt < q1.toInt)))), .val (.int (b2i (decide (p0.toInt ≤ (q1 - (1 : Int32)).toInt ∧ (q1 - (1 : Int32)).toInt < q1.toInt))))]) (pc' := 96) rfl rfl ?_
        refine gLoadI X22 hx (hb hby at_96) (pc' := 98) rfl rfl ?_
        refine gLoadI X22 hx (hb hby at_98) (pc' := 100) rfl rfl ?_
        refine gIcmpNe X22 hx (hb hby at_100) (pc' := 126) (by decide) (by decide) (pn := 103) rfl (fun (c100 : ¬ (b2i (decide (p0.toInt ≤ q2.toInt ∧ q2.toInt < q1.toInt))) = (1 : Int32)) => ?_) (fun (c100 : (b2i (decide (p0.toInt ≤ q2.toInt ∧ q2.toInt < q1.toInt))) = (1 : Int32)) => ?_)
        · exact absurd (b2_t (by have r0 := p0.toInt_lt; have r1 := p0.le_toInt; have r2 := q1.toInt_lt; have r3 := q1.le_toInt; have r4 := q2.toInt_lt; have r5 := q2.le_toInt; omega)) c100
        · refine gLoadI X22 hx (hb hby at_103) (pc' := 105) rfl rfl ?_
          refine gIfNe X22 hx (hb hby at_105) (pc' := 126) (by decide) (by decide) (pn := 108) rfl (fun (c105 : ¬ (b2i (decide (p0.toInt ≤ q1.toInt ∧ q1.toInt < q1.toInt))) = (0 : Int32)) => ?_) (fun (c105 : (b2i (decide (p0.toInt ≤ q1.toInt ∧ q1.toInt < q1.toInt))) = (0 : Int32)) => ?_)
          · exact absurd (b2_f (by omega)) c105
          · refine gLoadI X22 hx (hb hby at_108) (pc' := 110) rfl rfl ?_
            refine gLoadI X22 hx (hb hby at_110) (pc' := 112) rfl rfl ?_
            refine gIcmpNe X22 hx (hb hby at_112) (pc' := 126) (by decide) (by decide) (pn := 115) rfl (fun (c112 : ¬ (b2i (decide (p0.toInt ≤ p0.toInt ∧ p0.toInt < q1.toInt))) = (0 : Int32)) => ?_) (fun (c112 : (b2i (decide (p0.toInt ≤ p0.toInt ∧ p0.toInt < q1.toInt))) = (0 : Int32)) => ?_)
            · exact absurd (b2_f (by have r0 := p0.toInt_lt; have r1 := p0.le_toInt; have r2 := q1.toInt_lt; have r3 := q1.le_toInt; have r4 := q2.toInt_lt; have r5 := q2.le_toInt; omega)) c112
            · refine gLoadI X22 hx (hb hby at_115) (pc' := 117) rfl rfl ?_
              refine gLoadI X22 hx (hb hby at_117) (pc' := 119) rfl rfl ?_
              refine gIcmpNe X22 hx (hb hby at_119) (pc' := 126) (by decide) (by decide) (pn := 122) rfl (fun (c119 : ¬ (b2i (decide (p0.toInt ≤ (q1 - (1 : Int32)).toInt ∧ (q1 - (1 : Int32)).toInt < q1.toInt))) = (0 : Int32)) => ?_) (fun (c119 : (b2i (decide (p0.toInt ≤ (q1 - (1 : Int32)).toInt ∧ (q1 - (1 : Int32)).toInt < q1.toInt))) = (0 : Int32)) => ?_)
              · exact absurd (b2_f (by have r0 := p0.toInt_lt; have r1 := p0.le_toInt; have r2 := q1.toInt_lt; have r3 := q1.le_toInt; have r4 := q2.toInt_lt; have r5 := q2.le_toInt; have z := c_isub q1 1; have z1 : (1 : Int32).toInt = 1 := rfl; have r6 := (q1 - 1).toInt_lt; have r7 := (q1 - 1).le_toInt; omega)) c119
              · refine gIconst X22 hx (v := (1 : Int32)) (hb hby at_122) (pc' := 123) rfl rfl ?_
                refine gGoto X22 hx (hb hby at_123) (pc' := 127) (by decide) (by decide) ?_
                exact gRetN X22 hx hlk hret (by simp) (hb hby at_127) (w := (1 : Int32)) rfl (by decide) (by decide) (⟨rfl, N2⟩)
      · refine gIconst X2 hx (v := (1 : Int32)) (hb hby at_59) (pc' := 60) rfl rfl ?_
        refine gGoto X2 hx (hb hby at_60) (pc' := 64) (by decide) (by decide) ?_
        refine gStoreI X2 hx (hb hby at_64) (l' := #[.val (.int p0), .val (.int q1), .val (.int q2), .val (.ref b1), .val (.long (p0.toInt64)), .second, .val (.long (q1.toInt64)), .second, .val (.long (q2.toInt64)), .second, .val (.int (1 : Int32)), .val (.int (1 : Int32)), .unset, .unset, .unset, .unset]) (pc' := 66) rfl rfl ?_
        refine gLoadAN X2 hx (hb hby at_66) (pc' := 67) rfl rfl rfl ?_
        refine gLoadIN X2 hx (hb hby at_67) (pc' := 68) rfl rfl ?_
        refine gCallVJ X2 hx hZ (y := (⟨"com/example/clausewright/clausewright/outline/Outline$Span", "contains", "(I)Z"⟩ : MethodName)) hown rfl (by rw [hml]; rfl) Eq2 (hw _ (List.mem_of_getElem? (i := 18) rfl)) (hw _ (List.mem_of_getElem? (i := 19) rfl)) (hw _ (List.mem_of_getElem? (i := 21) rfl)) (hw _ (List.mem_of_getElem? (i := 20) rfl)) (hw _ (List.mem_of_getElem? (i := 2) rfl)) (hw _ (List.mem_of_getElem? (i := 22) rfl)) (by decide) (argsL := [(.int q2)]) (st := []) (c_contains l Z a0 hw b1 q2 _ _ _ Fs2 Fe2) (lenOf pd_1 rfl) (hb hby at_68) (pc' := 71) rfl rfl rfl rfl (by decide) (W := 0) (Nat.le_of_eq rfl) (by decide) (by decide) (by decide) ?_
        intro T23 X23 e23
        refine gStoreI X23 hx (hb hby at_71) (l' := #[.val (.int p0), .val (.int q1), .val (.int q2), .val (.ref b1), .val (.long (p0.toInt64)), .second, .val (.long (q1.toInt64)), .second, .val (.long (q2.toInt64)), .second, .val (.int (1 : Int32)), .val (.int (1 : Int32)), .val (.int (b2i (decide (p0.toInt ≤ q2.toInt ∧ q2.toInt < q1.toInt)))), .unset, .unset, .unset]) (pc' := 73) rfl rfl ?_
        refine gLoadAN X23 hx (hb hby at_73) (pc' := 74) rfl rfl rfl ?_
        refine gLoadIN X23 hx (hb hby at_74) (pc' := 75) rfl rfl ?_
        refine gCallVJ X23 hx hZ (y := (⟨"com/example/clausewright/clausewright/outline/Outline$Span", "contains", "(I)Z"⟩ : MethodName)) hown e23 (by rw [hml]; rfl) Eq2 (hw _ (List.mem_of_getElem? (i := 18) rfl)) (hw _ (List.mem_of_getElem? (i := 19) rfl)) (hw _ (List.mem_of_getElem? (i := 21) rfl)) (hw _ (List.mem_of_getElem? (i := 20) rfl)) (hw _ (List.mem_of_getElem? (i := 2) rfl)) (hw _ (List.mem_of_getElem? (i := 22) rfl)) (by decide) (argsL := [(.int q1)]) (st := []) (c_contains l Z a0 hw b1 q1 _ _ _ Fs2 Fe2) (lenOf pd_1 rfl) (hb hby at_75) (pc' := 78) rfl rfl rfl rfl (by decide) (W := 0) (Nat.le_of_eq rfl) (by decide) (by decide) (by decide) ?_
        intro T24 X24 e24
        refine gStoreI X24 hx (hb hby at_78) (l' := #[.val (.int p0), .val (.int q1), .val (.int q2), .val (.ref b1), .val (.long (p0.toInt64)), .second, .val (.long (q1.toInt64)), .second, .val (.long (q2.toInt64)), .second, .val (.int (1 : Int32)), .val (.int (1 : Int32)), .val (.int (b2i (decide (p0.toInt ≤ q2.toInt ∧ q2.toInt < q1.toInt)))), .val (.int (b2i (decide (p0.toInt ≤ q1.toInt ∧ q1.toInt < q1.toInt)))), .unset, .unset]) (pc' := 80) rfl rfl ?_
        refine gLoadAN X24 hx (hb hby at_80) (pc' := 81) rfl rfl rfl ?_
        refine gLoadIN X24 hx (hb hby at_81) (pc' := 82) rfl rfl ?_
        refine gCallVJ X24 hx hZ (y := (⟨"com/example/clausewright/clausewright/outline/Outline$Span", "contains", "(I)Z"⟩ : MethodName)) hown e24 (by rw [hml]; rfl) Eq2 (hw _ (List.mem_of_getElem? (i := 18) rfl)) (hw _ (List.mem_of_getElem? (i := 19) rfl)) (hw _ (List.mem_of_getElem? (i := 21) rfl)) (hw _ (List.mem_of_getElem? (i := 20) rfl)) (hw _ (List.mem_of_getElem? (i := 2) rfl)) (hw _ (List.mem_of_getElem? (i := 22) rfl)) (by decide) (argsL := [(.int p0)]) (st := []) (c_contains l Z a0 hw b1 p0 _ _ _ Fs2 Fe2) (lenOf pd_1 rfl) (hb hby at_82) (pc' := 85) rfl rfl rfl rfl (by decide) (W := 0) (Nat.le_of_eq rfl) (by decide) (by decide) (by decide) ?_
        intro T25 X25 e25
        refine gStoreI X25 hx (hb hby at_85) (l' := #[.val (.int p0), .val (.int q1), .val (.int q2), .val (.ref b1), .val (.long (p0.toInt64)), .second, .val (.long (q1.toInt64)), .second, .val (.long (q2.toInt64)), .second, .val (.int (1 : Int32)), .val (.int (1 : Int32)), .val (.int (b2i (decide (p0.toInt ≤ q2.toInt ∧ q2.toInt < q1.toInt)))), .val (.int (b2i (decide (p0.toInt ≤ q1.toInt ∧ q1.toInt < q1.toInt)))), .val (.int (b2i (decide (p0.toInt ≤ p0.toInt ∧ p0.toInt < q1.toInt)))), .unset]) (pc' := 87) rfl rfl ?_
        refine gLoadAN X25 hx (hb hby at_87) (pc' := 88) rfl rfl rfl ?_
        refine gLoadIN X25 hx (hb hby at_88) (pc' := 89) rfl rfl ?_
        refine gIconst X25 hx (v := (1 : Int32)) (hb hby at_89) (pc' := 90) rfl rfl ?_
        refine gIsub X25 hx (hb hby at_90) (pc' := 91) rfl ?_
        refine gCallVJ X25 hx hZ (y := (⟨"com/example/clausewright/clausewright/outline/Outline$Span", "contains", "(I)Z"⟩ : MethodName)) hown e25 (by rw [hml]; rfl) Eq2 (hw _ (List.mem_of_getElem? (i := 18) rfl)) (hw _ (List.mem_of_getElem? (i := 19) rfl)) (hw _ (List.mem_of_getElem? (i := 21) rfl)) (hw _ (List.mem_of_getElem? (i := 20) rfl)) (hw _ (List.mem_of_getElem? (i := 2) rfl)) (hw _ (List.mem_of_getElem? (i := 22) rfl)) (by decide) (argsL := [(.int (q1 - (1 : Int32)))]) (st := []) (c_contains l Z a0 hw b1 (q1 - (1 : Int32)) _ _ _ Fs2 Fe2) (lenOf pd_1 rfl) (hb hby at_91) (pc' := 94) rfl rfl rfl rfl (by decide) (W := 0) (Nat.le_of_eq rfl) (by decide) (by decide) (by decide) ?_
        intro T26 X26 e26
        refine gStoreI X26 hx (hb hby at_94) (l' := #[.val (.int p0), .val (.int q1), .val (.int q2), .val (.ref b1), .val (.long (p0.toInt64)), .second, .val (.long (q1.toInt64)), .second, .val (.long (q2.toInt64)), .second, .val (.int (1 : Int32)), .val (.int (1 : Int32)), .val (.int (b2i (decide (p0.toInt ≤ q2.toInt ∧ q2.toInt < q1.toInt)))), .val (.int (b2i (decide (p0.toInt ≤ q1.toInt ∧ q1.toInt < q1.toInt)))), .val (.int (b2i (decide (p0.toInt ≤ p0.toInt ∧ p0.toInt < q1.toInt)))), .val (.int (b2i (decide (p0.toInt ≤ (q1 - (1 : Int32)).toInt ∧ (q1 - (1 : Int32)).toInt < q1.toInt))))]) (pc' := 96) rfl rfl ?_
        refine gLoadI X26 hx (hb hby at_96) (pc' := 98) rfl rfl ?_
        refine gLoadI X26 hx (hb hby at_98) (pc' := 100) rfl rfl ?_
        refine gIcmpNe X26 hx (hb hby at_100) (pc' := 126) (by decide) (by decide) (pn := 103) rfl (fun (c100 : ¬ (b2i (decide (p0.toInt ≤ q2.toInt ∧ q2.toInt < q1.toInt))) = (1 : Int32)) => ?_) (fun (c100 : (b2i (decide (p0.toInt ≤ q2.toInt ∧ q2.toInt < q1.toInt))) = (1 : Int32)) => ?_)
        · exact absurd (b2_t (by have r0 := p0.toInt_lt; have r1 := p0.le_toInt; have r2 := q1.toInt_lt; have r3 := q1.le_toInt; have r4 := q2.toInt_lt; have r5 := q2.le_toInt; omega)) c100
        · refine gLoadI X26 hx (hb hby at_103) (pc' := 105) rfl rfl ?_
          refine gIfNe X26 hx (hb hby at_105) (pc' := 126) (by decide) (by decide) (pn := 108) rfl (fun (c105 : ¬ (b2i (decide (p0.toInt ≤ q1.toInt ∧ q1.toInt < q1.toInt))) = (0 : Int32)) => ?_) (fun (c105 : (b2i (decide (p0.toInt ≤ q1.toInt ∧ q1.toInt < q1.toInt))) = (0 : Int32)) => ?_)
          · exact absurd (b2_f (by omega)) c105
          · refine gLoadI X26 hx (hb hby at_108) (pc' := 110) rfl rfl ?_
            refine gLoadI X26 hx (hb hby at_110) (pc' := 112) rfl rfl ?_
            refine gIcmpNe X26 hx (hb hby at_112) (pc' := 126) (by decide) (by decide) (pn := 115) rfl (fun (c112 : ¬ (b2i (decide (p0.toInt ≤ p0.toInt ∧ p0.toInt < q1.toInt))) = (1 : Int32)) => ?_) (fun (c112 : (b2i (decide (p0.toInt ≤ p0.toInt ∧ p0.toInt < q1.toInt))) = (1 : Int32)) => ?_)
            · exact absurd (b2_t (by have r0 := p0.toInt_lt; have r1 := p0.le_toInt; have r2 := q1.toInt_lt; have r3 := q1.le_toInt; have r4 := q2.toInt_lt; have r5 := q2.le_toInt; omega)) c112
            · refine gLoadI X26 hx (hb hby at_115) (pc' := 117) rfl rfl ?_
              refine gLoadI X26 hx (hb hby at_117) (pc' := 119) rfl rfl ?_
              refine gIcmpNe X26 hx (hb hby at_119) (pc' := 126) (by decide) (by decide) (pn := 122) rfl (fun (c119 : ¬ (b2i (decide (p0.toInt ≤ (q1 - (1 : Int32)).toInt ∧ (q1 - (1 : Int32)).toInt < q1.toInt))) = (1 : Int32)) => ?_) (fun (c119 : (b2i (decide (p0.toInt ≤ (q1 - (1 : Int32)).toInt ∧ (q1 - (1 : Int32)).toInt < q1.toInt))) = (1 : Int32)) => ?_)
              · exact absurd (b2_t (by have r0 := p0.toInt_lt; have r1 := p0.le_toInt; have r2 := q1.toInt_lt; have r3 := q1.le_toInt; have r4 := q2.toInt_lt; have r5 := q2.le_toInt; have z := c_isub q1 1; have z1 : (1 : Int32).toInt = 1 := rfl; have r6 := (q1 - 1).toInt_lt; have r7 := (q1 - 1).le_toInt; omega)) c119
              · refine gIconst X26 hx (v := (1 : Int32)) (hb hby at_122) (pc' := 123) rfl rfl ?_
                refine gGoto X26 hx (hb hby at_123) (pc' := 127) (by decide) (by decide) ?_
                exact gRetN X26 hx hlk hret (by simp) (hb hby at_127) (w := (1 : Int32)) rfl (by decide) (by decide) (⟨rfl, N2⟩)
set_option maxRecDepth 65536 in
set_option maxHeartbeats 40000000 in
theorem comes_1 {Post : Tables → Env → Array Value → State → Outcome → State → Prop} (hpost : ∀ tb e args s v u, (limb_1_1.after args s (.returned v) u = true ∧ limb_1_2.after args s (.returned v) u = true ∧ True) → FrameEnd s (.returned v) u (Jvm.fieldLocs frame_1_writes args s ++ Jvm.arrayLocs frame_1_arrays args s ++ Jvm.staticLocs frame_1_statics s) 16 128 → Post tb e args s (.returned v) u) :
    ArmFor flags0 classFile x code maxLocals ret World_1 tables_1 room_1 Calls_1 rest_1 Pre_1 Post := by
  intro l hfl _ _ p e ha hc hk s m args below hf hA hF happ hP
  obtain ⟨hcalls, hrest, hpre⟩ := hP
  obtain ⟨-, -, -, hnamed, -, -, -, hat⟩ := (Spec.applies_iff hf).mp happ
  obtain ⟨hg, hn⟩ := and_e (Cond.before_iff.mp (show (Jvm.Cond.and given_1 narrow_1).before args s = true from hpre))
  obtain ⟨hcount, hv⟩ := and_e hg
  obtain ⟨ha0, hv0⟩ := and_e hv
  obtain ⟨ha1, hv1⟩ := and_e hv0
  obtain ⟨w0, w1, w2, rfl⟩ : ∃ w0 w1 w2 : Value, args = #[w0, w1, w2] := by
    have hs : args.size = 3 := by simpa [Cond.value, given_1] using hcount
    obtain ⟨L⟩ := args
    match L, hs with
    | [w0, w1, w2], _ => exact ⟨w0, w1, w2, rfl⟩
  have hw := fun d (hd : d ∈ tables_1) => atoms_spec (ws := Jvm.Cond.code x code maxLocals ret :: tables_1) hat d (List.mem_cons_of_mem _ hd)
  have hfit : Fit s := fun {y c} hc i hi => by
    obtain ⟨ha, rfl⟩ := Array.getElem?_eq_some_iff.mp hc
    have q := List.all_eq_true.mp ((Array.all_eq_true_iff_forall_mem.mp hF) _ (Array.getElem_mem ha)) i (List.mem_range.mpr hi)
    simpa [Array.getElem?_eq_getElem hi] using q
  obtain ⟨i0, ei0⟩ := is_v ha0
  obtain rfl : w0 = (.int i0) := Option.some.inj ei0
  obtain ⟨i1, ei1⟩ := is_v ha1
  obtain rfl : w1 = (.int i1) := Option.some.inj ei1
  obtain ⟨i2, ei2⟩ := is_v hv1
  obtain rfl : w2 = (.int i2) := Option.some.inj ei2
  obtain ⟨n, o, h1, h2, h3, _, L, rfl, ⟨rfl, N⟩, hq⟩ := c_law l s _ hw i0 i1 i2 s.heap  p e ha hc hk s m _ below hf ((Spec.applies_iff_loose hf).mp happ).1 ⟨rfl, State.Warmed39.refl s, rfl⟩ trivial
  refine ⟨n, _, h1, h2, h3, hpost _ _ _ _ _ _ ⟨Cond.after_iff.mpr rfl, Cond.after_iff.mpr (eq_i res_at (Term.int_eval (1)) rfl), trivial⟩ ⟨hq.1, hq.2.1, (hq.2.2.sift fun y hy => Or.inr (N y hy)).mono (by decide) (by decide)⟩⟩
theorem main_1_1 : Claimed_1_1 := comes_1 fun _ _ _ _ _ _ h hF => ⟨h.1, hF⟩
theorem main_1_2 : Claimed_1_2 := comes_1 fun _ _ _ _ _ _ h hF => ⟨h.2.1, hF⟩
end Jvm.Pilot.@@N@@
namespace Jvm.Pilot.@@N@@
open Jvm Jvm.ClassFile Sem Op Lib Jvm.Free Jvm.Stand Jvm.Pilot.@@N@@.Jvm.D
/-! MADE BY PROGRAM (witnessworld.py) out of the Statement's table words and the real class files: 10 classes; the members and pool entries that the words name. The judged class is class 1, her method 1. -/
namespace start1
open Jvm.ClassFile
def u (s : String) : CpInfo := .utf8 (stringToUtf16 s)
/-- a pool by its gaps: so many unusable entries, then the entry; so many at the end -/
def gap : Nat → List CpInfo → List CpInfo
  | 0, r => r
  | n + 1, r => .unusable :: gap n r
def poolList (es : List (Nat × CpInfo)) (last : Nat) : List CpInfo := es.foldr (fun e r => gap e.1 (e.2 :: r)) (gap last [])
def pool (es : List (Nat × CpInfo)) (last : Nat) : Array CpInfo := ⟨poolList es last⟩
def fileOf (pool : Array CpInfo) (this : Nat) (attrs : Array Attribute := #[]) (ms : Array MethodInfo := #[]) (fl : Nat := 33) (sup : Nat := 0) (ifs : Array Nat := #[]) (fds : Array FieldInfo := #[]) : ClassFile where
  minorVersion := 0
  majorVersion := 65
  constantPool := pool
  accessFlags := fl
  thisClass := this
  superClass := sup
  interfaces := ifs
  fields := fds
  methods := ms
  attributes := attrs
def plain (name : String) (sup : Option ClassId) : Class where
  name := name
  kind := .ordinary
  loader := none
  accessFlags := 33
  super := sup
  interfaces := #[]
  cf := none
  fields := #[]
  methods := #[]
  instanceTypes := #[]
  staticTypes := #[]
  resolved := #[]
  callSites := []
  init := .initialized
  statics := none
  mirror := none

def pool0 : Array CpInfo := pool [(5, u "<init>"), (0, u "()V"), (1, .class_ 10), (1, u "java/lang/Object")] 113

def k0c0 : Code := { maxStack := 0, maxLocals := 1, code := object_method_1_code, exceptionTable := #[], attributes := #[] }
def k0m0 : Method := { name := "<init>", desc := "()V", sig := { parameters := [], returnType := none }, accessFlags := 1, code := some k0c0 }
/-- java/lang/Object -/
def k0 : Class := { plain "java/lang/Object" none with
  accessFlags := 33
  interfaces := #[]
  cf := some (fileOf pool0 8 #[] #[{ accessFlags := 1, nameIndex := 5, descriptorIndex := 6, attributes := #[] }] 33 0 #[] #[])
  fields := #[]
  methods := #[k0m0]
  instanceTypes := #[]
  staticTypes := #[]
  resolved := Array.replicate 124 none
  statics := none }

def pool1 : Array CpInfo := pool [(2, .class_ 4), (1, u "java/lang/Object"), (0, u "<init>"), (0, u "()V"), (0, .class_ 8), (0, u "com/example/clausewright/clausewright/outline/Outline$Span"), (0, .methodref 7 10), (0, .nameAndType 5 11), (0, u "(II)V"), (0, .methodref 7 13), (0, .nameAndType 14 15), (0, u "contains"), (0, u "(I)Z"), (0, .class_ 17), (0, u "com/example/clausewright/clausewright/outline/SpanContainsPinLaw"), (2, u "law"), (0, u "(III)Z")] 7

def k1m0 : Method := { name := "<init>", desc := "()V", sig := { parameters := [], returnType := none }, accessFlags := 1, code := none }
def k1c1 : Code := { maxStack := 4, maxLocals := 16, code := code, exceptionTable := #[], attributes := #[] }
def k1m1 : Method := { name := "law", desc := "(III)Z", sig := { parameters := [.int, .int, .int], returnType := some .boolean }, accessFlags := 9, code := some k1c1 }
/-- com/example/clausewright/clausewright/outline/SpanContainsPinLaw -/
def k1 : Class := { plain "com/example/clausewright/clausewright/outline/SpanContainsPinLaw" (some 0) with
  accessFlags := 49
  interfaces := #[]
  cf := some (fileOf pool1 16 #[] #[{ accessFlags := 1, nameIndex := 5, descriptorIndex := 6, attributes := #[] }, { accessFlags := 9, nameIndex := 20, descriptorIndex := 21, attributes := #[] }] 49 2 #[] #[])
  fields := #[]
  methods := #[k1m0, k1m1]
  instanceTypes := #[]
  staticTypes := #[]
  resolved := Array.replicate 29 none
  statics := none }

def pool2 : Array CpInfo := pool [(1, .methodref 2 3), (0, .class_ 4), (0, .nameAndType 5 6), (0, u "java/lang/Object"), (0, u "<init>"), (0, u "()V"), (0, .class_ 8), (0, u "java/lang/Record")] 13

def k2c0 : Code := { maxStack := 1, maxLocals := 1, code := jdk_30_method_1_code, exceptionTable := #[], attributes := #[] }
def k2m0 : Method := { name := "<init>", desc := "()V", sig := { parameters := [], returnType := none }, accessFlags := 4, code := some k2c0 }
/-- java/lang/Record -/
def k2 : Class := { plain "java/lang/Record" (some 0) with
  accessFlags := 1057
  interfaces := #[]
  cf := some (fileOf pool2 7 #[] #[{ accessFlags := 4, nameIndex := 5, descriptorIndex := 6, attributes := #[] }] 1057 2 #[] #[])
  fields := #[]
  methods := #[k2m0]
  instanceTypes := #[]
  staticTypes := #[]
  resolved := Array.replicate 22 none
  statics := none }

def pool3 : Array CpInfo := pool [(1, .methodref 2 3), (0, .class_ 4), (0, .nameAndType 5 6), (0, u "java/lang/Record"), (0, u "<init>"), (0, u "()V"), (0, .fieldref 8 9), (0, .class_ 10), (0, .nameAndType 11 12), (0, u "com/example/clausewright/clausewright/outline/Outline$Span"), (0, u "start"), (0, u "I"), (0, .fieldref 8 14), (0, .nameAndType 15 12), (0, u "end"), (12, u "(II)V"), (3, u "contains"), (0, u "(I)Z"), (7, .class_ 42), (0, u "com/example/clausewright/clausewright/outline/Outline")] 20

def k3c0 : Code := { maxStack := 2, maxLocals := 3, code := prog_34_method_1_code, exceptionTable := #[], attributes := #[] }
def k3m0 : Method := { name := "<init>", desc := "(II)V", sig := { parameters := [.int, .int], returnType := none }, accessFlags := 1, code := some k3c0 }
def k3c1 : Code := { maxStack := 2, maxLocals := 2, code := prog_34_method_2_code, exceptionTable := #[], attributes := #[] }
def k3m1 : Method := { name := "contains", desc := "(I)Z", sig := { parameters := [.int], returnType := some .boolean }, accessFlags := 1, code := some k3c1 }
/-- com/example/clausewright/clausewright/outline/Outline$Span -/
def k3 : Class := { plain "com/example/clausewright/clausewright/outline/Outline$Span" (some 2) with
  accessFlags := 49
  interfaces := #[]
  cf := some (fileOf pool3 8 #[.nestHost 41] #[{ accessFlags := 1, nameIndex := 5, descriptorIndex := 28, attributes := #[] }, { accessFlags := 1, nameIndex := 32, descriptorIndex := 33, attributes := #[] }] 49 2 #[] #[{ accessFlags := 18, nameIndex := 11, descriptorIndex := 12, attributes := #[] }, { accessFlags := 18, nameIndex := 15, descriptorIndex := 12, attributes := #[] }])
  fields := #[{ name := "start", type := .int, accessFlags := 18, slot := 0, constantValue := 0 }, { name := "end", type := .int, accessFlags := 18, slot := 1, constantValue := 0 }]
  methods := #[k3m0, k3m1]
  instanceTypes := #[.int, .int]
  staticTypes := #[]
  resolved := Array.replicate 63 none
  statics := none }

def pool4 : Array CpInfo := pool [(1, u "java/lang/Cloneable"), (0, .class_ 1), (0, u "java/lang/Object"), (0, .class_ 3)] 3

/-- java/lang/Cloneable -/
def k4 : Class := { plain "java/lang/Cloneable" (some 0) with
  accessFlags := 1537
  interfaces := #[]
  cf := some (fileOf pool4 2 #[] #[] 1537 4 #[] #[])
  fields := #[]
  methods := #[]
  instanceTypes := #[]
  staticTypes := #[]
  resolved := Array.replicate 8 none
  statics := none }

def pool5 : Array CpInfo := pool [(1, u "java/io/Serializable"), (0, .class_ 1), (0, u "java/lang/Object"), (0, .class_ 3)] 3

/-- java/io/Serializable -/
def k5 : Class := { plain "java/io/Serializable" (some 0) with
  accessFlags := 1537
  interfaces := #[]
  cf := some (fileOf pool5 2 #[] #[] 1537 4 #[] #[])
  fields := #[]
  methods := #[]
  instanceTypes := #[]
  staticTypes := #[]
  resolved := Array.replicate 8 none
  statics := none }

/-- the primitive byte -/
def k6 : Class := { plain "byte" none with kind := .primitive 'B', accessFlags := 0x411 }
/-- [B -/
def k7 : Class := { plain "[B" (some 0) with kind := .array 6 .byte, interfaces := #[4, 5], accessFlags := 1041 }

/-- the primitive int -/
def k8 : Class := { plain "int" none with kind := .primitive 'I', accessFlags := 0x411 }
/-- [I -/
def k9 : Class := { plain "[I" (some 0) with kind := .array 8 .int, interfaces := #[4, 5], accessFlags := 1041 }

def heap : Heap := #[]
def classes : Array Class := #[k0, k1, k2, k3, k4, k5, k6, k7, k8, k9]
def interned : List (Array UInt16 × Addr) := []
def slotsUsed : Nat := 0
def theMethod : MethodId := ⟨1, 1⟩
def args0 : Array Value := #[.int 65, .int 65, .int 65]
def aboutOver (below : List Frame) : State where
  vm := { classes := classes, interned := interned.toArray }
  heap := heap
  slotsUsed := slotsUsed
  threads := #[{ frames := .invoking theMethod args0 :: below }]
def below0 : List Frame := [.native { method := ⟨0, 0⟩, args := #[] }]
def about1 : State := aboutOver below0
def p0 : Program := .bare "" "" ""
def e0 : Env := launch0.env 0 0 0
theorem w_frames : about1.frames = Frame.invoking theMethod args0 :: below0 := rfl
set_option maxRecDepth 65536 in
theorem w_args : argsFit about1.vm theMethod args0 = true := by decide +kernel
set_option maxRecDepth 65536 in
theorem w_heap : heapFits about1 = true := by decide +kernel
set_option maxRecDepth 65536 in
theorem w_runnable : about1.curStatus? = some .runnable := by decide +kernel
set_option maxRecDepth 65536 in
theorem w_alone : about1.alone = true := by decide +kernel
set_option maxRecDepth 65536 in
theorem w_named : about1.methodNamed? x = some theMethod := by decide +kernel
set_option maxRecDepth 65536 in
theorem w_hears : about1.hears theMethod below0 = true := by decide +kernel
set_option maxRecDepth 65536 in
theorem w_ripe : about1.ripe theMethod args0 below0 = true := by decide +kernel
theorem w_running : about1.status = .running := rfl
set_option maxRecDepth 65536 in
theorem w_room : about1.hasRoom e0.platform room_1 = true :=
  launch0.hasRoom_least _ room_1 (by decide +kernel) (by decide +kernel) (by decide +kernel) (by decide +kernel) (by decide +kernel) (by decide +kernel)
theorem allAtoms_all (ts : List Jvm.Cond) (a : Array Jvm.Value) (st : Jvm.State) : (allAtoms ts).before a st = ts.all (fun c => c.before a st) := by
  induction ts with
  | nil => rfl
  | cons c t ih =>
    show (Jvm.Cond.and c (allAtoms t)).before a st = _
    rw [Jvm.Cond.before_and, ih, List.all_cons]
def words1 : List Jvm.Cond := Jvm.Cond.code x code maxLocals ret :: tables_1
/-- a 'code' word, met by the world's own term for the bytes: nothing is compared byte by byte -/
theorem code_word {y : MethodName} {bytes : ByteArray} {mx : Nat} {rt : Option FieldType} {a : Array Value} {s : State} {m : MethodId} {meth : Method} {c : Code} (h1 : s.methodNamed? y = some m) (h2 : s.vm.method? m = some meth) (h3 : meth.code = some c) (h4 : c.code = bytes)
    (h5 : (c.maxLocals == mx && c.exceptionTable.isEmpty && decide (c.maxStack ≤ mostOperands) && decide (meth.sig.returnType = rt) && !meth.locks && decide (parseMethodDescriptor y.desc = some meth.sig)) = true) : (Jvm.Cond.code y bytes mx rt).before a s = true := by
  simp only [Bool.and_eq_true, beq_iff_eq, Bool.not_eq_true', decide_eq_true_eq] at h5
  obtain ⟨⟨⟨⟨⟨g1, g2⟩, g3⟩, g4⟩, g5⟩, g6⟩ := h5
  simp [Cond.before, Cond.holds, Cond.value, h1, h2, h3, h4, g1, g2, g3, g4, g5, g6]
def isCode : Jvm.Cond → Bool
  | .code _ _ _ _ => true
  | _ => false
theorem all_split {L : List Jvm.Cond} {P : Jvm.Cond → Bool} (h1 : L.all (fun c => isCode c || P c) = true) (h2 : ∀ c ∈ L.filter isCode, P c = true) : L.all P = true := by
  refine List.all_eq_true.mpr fun c hc => ?_
  have h := List.all_eq_true.mp h1 c hc
  rcases Bool.eq_false_or_eq_true (isCode c) with hi | hi
  · exact h2 c (List.mem_filter.mpr ⟨hc, hi⟩)
  · simpa [hi] using h
set_option maxRecDepth 65536 in
theorem w_c0 : (Jvm.Cond.code x code maxLocals ret).before args0 about1 = true := code_word (m := ⟨1, 1⟩) (meth := k1m1) (c := k1c1) (by decide +kernel) rfl rfl rfl (by decide +kernel)
set_option maxRecDepth 65536 in
theorem w_c1 : (Jvm.Cond.code ({ cls := "com/example/clausewright/clausewright/outline/Outline$Span", name := "<init>", desc := "(II)V" } : Jvm.MethodName) prog_34_method_1_code (3 : Nat) (Option.none : Option Jvm.ClassFile.FieldType)).before args0 about1 = true := code_word (m := ⟨3, 0⟩) (meth := k3m0) (c := k3c0) (by decide +kernel) rfl rfl rfl (by decide +kernel)
set_option maxRecDepth 65536 in
theorem w_c2 : (Jvm.Cond.code ({ cls := "java/lang/Record", name := "<init>", desc := "()V" } : Jvm.MethodName) jdk_30_method_1_code (1 : Nat) (Option.none : Option Jvm.ClassFile.FieldType)).before args0 about1 = true := code_word (m := ⟨2, 0⟩) (meth := k2m0) (c := k2c0) (by decide +kernel) rfl rfl rfl (by decide +kernel)
set_option maxRecDepth 65536 in
theorem w_c3 : (Jvm.Cond.code ({ cls := "java/lang/Object", name := "<init>", desc := "()V" } : Jvm.MethodName) object_method_1_code (1 : Nat) (Option.none : Option Jvm.ClassFile.FieldType)).before args0 about1 = true := code_word (m := ⟨0, 0⟩) (meth := k0m0) (c := k0c0) (by decide +kernel) rfl rfl rfl (by decide +kernel)
set_option maxRecDepth 65536 in
theorem w_c4 : (Jvm.Cond.code ({ cls := "com/example/clausewright/clausewright/outline/Outline$Span", name := "contains", desc := "(I)Z" } : Jvm.MethodName) prog_34_method_2_code (2 : Nat) (Option.some Jvm.ClassFile.FieldType.boolean)).before args0 about1 = true := code_word (m := ⟨3, 1⟩) (meth := k3m1) (c := k3c1) (by decide +kernel) rfl rfl rfl (by decide +kernel)
def codes1 : List Jvm.Cond := [Jvm.Cond.code x code maxLocals ret, Jvm.Cond.code ({ cls := "com/example/clausewright/clausewright/outline/Outline$Span", name := "<init>", desc := "(II)V" } : Jvm.MethodName) prog_34_method_1_code (3 : Nat) (Option.none : Option Jvm.ClassFile.FieldType), Jvm.Cond.code ({ cls := "java/lang/Record", name := "<init>", desc := "()V" } : Jvm.MethodName) jdk_30_method_1_code (1 : Nat) (Option.none : Option Jvm.ClassFile.FieldType), Jvm.Cond.code ({ cls := "java/lang/Object", name := "<init>", desc := "()V" } : Jvm.MethodName) object_method_1_code (1 : Nat) (Option.none : Option Jvm.ClassFile.FieldType), Jvm.Cond.code ({ cls := "com/example/clausewright/clausewright/outline/Outline$Span", name := "contains", desc := "(I)Z" } : Jvm.MethodName) prog_34_method_2_code (2 : Nat) (Option.some Jvm.ClassFile.FieldType.boolean)]
set_option maxRecDepth 65536 in
theorem codes_eq : words1.filter isCode = codes1 := rfl
theorem w_codes : ∀ c ∈ words1.filter isCode, c.before args0 about1 = true := by
  rw [codes_eq]
  intro c hc
  simp only [codes1, List.mem_cons, List.not_mem_nil, or_false] at hc
  rcases hc with rfl | rfl | rfl | rfl | rfl
  · exact w_c0
  · exact w_c1
  · exact w_c2
  · exact w_c3
  · exact w_c4
set_option maxRecDepth 65536 in
theorem w_t1 : words1.all (fun c => isCode c || c.before args0 about1) = true := by decide +kernel
theorem w_tables : (allAtoms (Jvm.Cond.code x code maxLocals ret :: tables_1)).before args0 about1 = true := by
  rw [allAtoms_all]
  show words1.all (fun c => c.before args0 about1) = true
  refine all_split ?_ w_codes
  rw [w_t1]
set_option maxRecDepth 65536 in
theorem w_case : (Jvm.Cond.and given_1 narrow_1).before args0 about1 = true := by decide +kernel
theorem w_applies : (headSpec (Jvm.Cond.code x code maxLocals ret :: tables_1) room_1).applies x e0.platform about1 = true :=
  (Spec.applies_iff w_frames).mpr ⟨w_running, w_runnable, w_alone, w_named, w_hears, w_ripe, w_room, w_tables⟩
theorem atStart : AtStart classFile x code maxLocals ret World_1 tables_1 room_1 Calls_1 rest_1 Pre_1 launch0 p0 e0 about1 theMethod args0 below0 :=
  ⟨lists_1, trivial, launch0.admits_env _ _ _, launch0.least_env, fairChoices_fair.cas, fairChoices_fair.clock, w_frames, w_args, w_heap, w_applies, trivial, trivial, w_case⟩
end start1
theorem witness_1 : WitnessClaimed_1 := ⟨start1.p0, start1.e0, start1.about1, start1.theMethod, start1.args0, start1.below0, start1.atStart⟩
end Jvm.Pilot.@@N@@
