import JvmDerived
import JvmDerived.Pilot.@@N@@Statement
import JvmDerived.Pilot.@@N@@Code
set_option linter.unusedVariables false
set_option linter.unusedSimpArgs false
@@BLOCK:NumsL.lean.txt@@
namespace Jvm.Pilot.@@N@@
open Jvm Jvm.ClassFile Sem Op Lib Jvm.Free Jvm.Stand Jvm.LawKit Jvm.RoadKit Bundle Jvm.Pilot.@@N@@.Jvm.D
section OwnLayer
variable {p : Program} {l : Launch} {e : Env} {R : Room} {s : State} {m : MethodId} {args : Array Value} {below : List Frame} {meth : Method} {c : Code} {T : State} {locs : List Loc} {cells slots : Nat}
variable {F : State → Outcome → Prop} {kc ks : Nat} {Q : Option Value → Heap → List Loc → Prop} {pc pc' : Nat} {ls : Array Slot} {st : List Value} {Z : State} {a0 : Array Value} {h : Heap}
/-- from this state and frame the run comes to an end of which F holds -/
def Goes (p : Program) (e : Env) (below : List Frame) (F : State → Outcome → Prop) (T : State) (g : JFrame) : Prop :=
  ∃ s₂ o, Steps p.tables e below (T.setTop g) s₂ ∧ s₂.status = .running ∧ Ended s₂ below o ∧ F s₂ o
/-- it returns, Q holds of the value, the heap and the places written; the frame is the plain one -/
def FinN (s : State) (kc ks : Nat) (Q : Option Value → Heap → List Loc → Prop) (s₂ : State) (o : Outcome) : Prop := ∃ v L, o = .returned v ∧ Q v s₂.heap L ∧ FrameEnd s o s₂ L kc ks
theorem Goes.fore {T' : State} {g g' : JFrame} (k : ∀ target, Steps p.tables e below (T'.setTop g') target → Steps p.tables e below (T.setTop g) target) (G : Goes p e below F T' g') : Goes p e below F T g := by
  obtain ⟨a, b, h, r⟩ := G; exact ⟨a, b, k _ h, r⟩
theorem Goes.tr {T' : State} {g g' : JFrame} (k : Steps p.tables e below (T.setTop g) (T'.setTop g')) (G : Goes p e below F T' g') : Goes p e below F T g := by
  obtain ⟨a, b, h, r⟩ := G; exact ⟨a, b, k.trans h, r⟩
theorem Goes.cast {g g' : JFrame} (q : g = g') (G : Goes p e below F T g') : Goes p e below F T g := q ▸ G
/-- a body's contract: called with these arguments on this heap it returns, and Q holds of the value, the heap and the places written -/
def Ctr (l : Launch) (Z : State) (y : MethodName) (bytes : ByteArray) (maxL : Nat) (ret : Option FieldType) (ws : List Jvm.Cond) (rm : Room) (as' : Array Value) (h0 : Heap) (Q : Option Value → Heap → List Loc → Prop) : Prop :=
  MetFree l y (head1 (Jvm.Cond.code y bytes maxL ret :: ws) rm) (fun a U => a = as' ∧ Z.Warmed39 U.vm ∧ U.heap = h0) (fun _ _ _ _ _ => True) (fun _ U o U' => ∃ v L, o = .returned v ∧ Q v U'.heap L ∧ FrameEnd U o U' L rm.cells rm.slots)
theorem Ctr.of {y : MethodName} {bytes : ByteArray} {maxL : Nat} {ret : Option FieldType} {ws : List Jvm.Cond} {rm : Room} {as' : Array Value} {h0 : Heap} (hp : plainFor y = true)
    (body : ∀ (p : Program) (e : Env) (s : State) (m : MethodId) (below : List Frame) (meth : Method) (c : Code) (s₁ : State), p.tables.exec = Jvm.exec → c.code = bytes → c.maxLocals = maxL → meth.sig.returnType = ret → s.vm.findClass y.cls = some m.cls → meth.name = y.name → Z.Warmed39 s.vm → meth.locks = false → Stand p l e rm s m as' below meth c s₁ [] 0 0 → s₁.heap = h0 → Goes p e below (FinN s rm.cells rm.slots Q) s₁ (entryFrame m as' maxL)) :
    Ctr l Z y bytes maxL ret ws rm as' h0 Q := by
  refine MetFree.of_bodySF hp hisR ?_
  intro p e s m args below meth c s₁ Bd hml hP hK
  obtain ⟨rfl, hZ, hh⟩ := hP
  exact body p e s m below meth c s₁ Bd.exec Bd.bytes hml Bd.returns (findClass_of_methodNamed Bd.named) (name_of_methodNamed Bd.named Bd.method).1 hZ Bd.notSynchronized (Stand.of_body Bd) (by rw [← hh, Bd.state]; rfl)
theorem Ctr.mono {y : MethodName} {bytes : ByteArray} {maxL : Nat} {ret : Option FieldType} {ws : List Jvm.Cond} {rm : Room} {as' : Array Value} {h0 : Heap} {Q' : Option Value → Heap → List Loc → Prop} (C : Ctr l Z y bytes maxL ret ws rm as' h0 Q) (hq : ∀ v h L, Q v h L → Q' v h L) : Ctr l Z y bytes maxL ret ws rm as' h0 Q' := by
  intro p e ha hc hk s m args below hf happ hP hK
  obtain ⟨n, o, h1, h2, h3, v, L, h4, h5, h6⟩ := C p e ha hc hk s m args below hf happ hP hK
  exact ⟨n, o, h1, h2, h3, v, L, h4, hq _ _ _ h5, h6⟩
/-- it returns w and leaves the heap as it was -/
def Just (h0 : Heap) (w : Value) (v : Option Value) (h : Heap) (L : List Loc) : Prop := v = some w ∧ h = h0 ∧ L = []
theorem gLoadIN (X : Stand p l e R s m args below meth c T locs cells slots) (hx : p.tables.exec = Jvm.exec) {k : Fin 4} {v : Int32} (hd : decode c.code pc = .ok (.iload_n k, 1)) (hl : ls[k.val]? = some (.val (.int v))) (hp : pc + 1 = pc') (k : Goes p e below F T (mkF m pc' ls (.int v :: st))) : Goes p e below F T (mkF m pc ls st) := by
  subst hp; exact Goes.fore (fun _ q => XS.iloadN X.here hx rfl hd hl q) k
theorem gLoadI (X : Stand p l e R s m args below meth c T locs cells slots) (hx : p.tables.exec = Jvm.exec) {k : Nat} {v : Int32} (hd : decode c.code pc = .ok (.iload k, 2)) (hl : ls[k]? = some (.val (.int v))) (hp : pc + 2 = pc') (k : Goes p e below F T (mkF m pc' ls (.int v :: st))) : Goes p e below F T (mkF m pc ls st) := by
  subst hp; exact Goes.fore (fun _ q => XS.iload X.here hx rfl hd hl q) k
theorem gStoreIN (X : Stand p l e R s m args below meth c T locs cells slots) (hx : p.tables.exec = Jvm.exec) {k : Fin 4} {v : Int32} {l' : Array Slot} (hd : decode c.code pc = .ok (.istore_n k, 1)) (hl : storeLocals ls k.val (.int v) = some l') (hp : pc + 1 = pc') (k : Goes p e below F T (mkF m pc' l' st)) : Goes p e below F T (mkF m pc ls (.int v :: st)) := by
  subst hp; exact Goes.fore (fun _ q => XS.istoreN X.here hx rfl hd rfl hl q) k
theorem gStoreI (X : Stand p l e R s m args below meth c T locs cells slots) (hx : p.tables.exec = Jvm.exec) {k : Nat} {v : Int32} {l' : Array Slot} (hd : decode c.code pc = .ok (.istore k, 2)) (hl : storeLocals ls k (.int v) = some l') (hp : pc + 2 = pc') (k : Goes p e below F T (mkF m pc' l' st)) : Goes p e below F T (mkF m pc ls (.int v :: st)) := by
  subst hp; exact Goes.fore (fun _ q => XS.istore X.here hx rfl hd rfl hl q) k
theorem gLoadJN (X : Stand p l e R s m args below meth c T locs cells slots) (hx : p.tables.exec = Jvm.exec) {k : Fin 4} {v : Int64} (hd : decode c.code pc = .ok (.lload_n k, 1)) (hl : ls[k.val]? = some (.val (.long v))) (hp : pc + 1 = pc') (k : Goes p e below F T (mkF m pc' ls (.long v :: st))) : Goes p e below F T (mkF m pc ls st) := by
  subst hp; exact Goes.fore (fun _ q => XS.lloadN X.here hx rfl hd hl q) k
theorem gLoadJ (X : Stand p l e R s m args below meth c T locs cells slots) (hx : p.tables.exec = Jvm.exec) {k : Nat} {v : Int64} (hd : decode c.code pc = .ok (.lload k, 2)) (hl : ls[k]? = some (.val (.long v))) (hp : pc + 2 = pc') (k : Goes p e below F T (mkF m pc' ls (.long v :: st))) : Goes p e below F T (mkF m pc ls st) := by
  subst hp; exact Goes.fore (fun _ q => XS.lload X.here hx rfl hd hl q) k
theorem gStoreJN (X : Stand p l e R s m args below meth c T locs cells slots) (hx : p.tables.exec = Jvm.exec) {k : Fin 4} {v : Int64} {l' : Array Slot} (hd : decode c.code pc = .ok (.lstore_n k, 1)) (hl : storeLocals ls k.val (.long v) = some l') (hp : pc + 1 = pc') (k : Goes p e below F T (mkF m pc' l' st)) : Goes p e below F T (mkF m pc ls (.long v :: st)) := by
  subst hp; exact Goes.fore (fun _ q => XS.lstoreN X.here hx rfl hd rfl hl q) k
theorem gStoreJ (X : Stand p l e R s m args below meth c T locs cells slots) (hx : p.tables.exec = Jvm.exec) {k : Nat} {v : Int64} {l' : Array Slot} (hd : decode c.code pc = .ok (.lstore k, 2)) (hl : storeLocals ls k (.long v) = some l') (hp : pc + 2 = pc') (k : Goes p e below F T (mkF m pc' l' st)) : Goes p e below F T (mkF m pc ls (.long v :: st)) := by
  subst hp; exact Goes.fore (fun _ q => XS.lstore X.here hx rfl hd rfl hl q) k
theorem gLoadAN (X : Stand p l e R s m args below meth c T locs cells slots) (hx : p.tables.exec = Jvm.exec) {k : Fin 4} {v : Value} (hd : decode c.code pc = .ok (.aload_n k, 1)) (hl : ls[k.val]? = some (.val v)) (hv : v.isRef = true) (hp : pc + 1 = pc') (k : Goes p e below F T (mkF m pc' ls (v :: st))) : Goes p e below F T (mkF m pc ls st) := by
  subst hp; exact Goes.fore (fun _ q => XS.aloadN X.here hx rfl hd hl hv q) k
theorem gLoadA (X : Stand p l e R s m args below meth c T locs cells slots) (hx : p.tables.exec = Jvm.exec) {k : Nat} {v : Value} (hd : decode c.code pc = .ok (.aload k, 2)) (hl : ls[k]? = some (.val v)) (hv : v.isRef = true) (hp : pc + 2 = pc') (k : Goes p e below F T (mkF m pc' ls (v :: st))) : Goes p e below F T (mkF m pc ls st) := by
  subst hp; exact Goes.fore (fun _ q => XS.aload X.here hx rfl hd hl hv q) k
theorem gStoreAN (X : Stand p l e R s m args below meth c T locs cells slots) (hx : p.tables.exec = Jvm.exec) {k : Fin 4} {v : Value} {l' : Array Slot} (hd : decode c.code pc = .ok (.astore_n k, 1)) (hv : v.isRef = true) (hl : storeLocals ls k.val v = some l') (hp : pc + 1 = pc') (k : Goes p e below F T (mkF m pc' l' st)) : Goes p e below F T (mkF m pc ls (v :: st)) := by
  subst hp; exact Goes.fore (fun _ q => XS.astoreN X.here hx rfl hd rfl hv hl q) k
theorem gStoreA (X : Stand p l e R s m args below meth c T locs cells slots) (hx : p.tables.exec = Jvm.exec) {k : Nat} {v : Value} {l' : Array Slot} (hd : decode c.code pc = .ok (.astore k, 2)) (hv : v.isRef = true) (hl : storeLocals ls k v = some l') (hp : pc + 2 = pc') (k : Goes p e below F T (mkF m pc' l' st)) : Goes p e below F T (mkF m pc ls (v :: st)) := by
  subst hp; exact Goes.fore (fun _ q => XS.astore X.here hx rfl hd rfl hv hl q) k
theorem gIconst (X : Stand p l e R s m args below meth c T locs cells slots) (hx : p.tables.exec = Jvm.exec) {i : Int} {v : Int32} (hd : decode c.code pc = .ok (.iconst i, 1)) (hv : Int32.ofInt i = v) (hp : pc + 1 = pc') (k : Goes p e below F T (mkF m pc' ls (.int v :: st))) : Goes p e below F T (mkF m pc ls st) := by
  subst hp; exact Goes.fore (fun _ q => XT.iconstV X.here hx rfl v hd hv q) k
theorem gBipush (X : Stand p l e R s m args below meth c T locs cells slots) (hx : p.tables.exec = Jvm.exec) {i : Int} {v : Int32} (hd : decode c.code pc = .ok (.bipush i, 2)) (hv : (Int8.ofInt i).toInt32 = v) (hp : pc + 2 = pc') (k : Goes p e below F T (mkF m pc' ls (.int v :: st))) : Goes p e below F T (mkF m pc ls st) := by
  subst hp; exact Goes.fore (fun _ q => XT.bipushV X.here hx rfl v hd hv q) k
theorem gSipush (X : Stand p l e R s m args below meth c T locs cells slots) (hx : p.tables.exec = Jvm.exec) {i : Int} {v : Int32} (hd : decode c.code pc = .ok (.sipush i, 3)) (hv : (Int16.ofInt i).toInt32 = v) (hp : pc + 3 = pc') (k : Goes p e below F T (mkF m pc' ls (.int v :: st))) : Goes p e below F T (mkF m pc ls st) := by
  subst hp; exact Goes.fore (fun _ q => XT.sipushV X.here hx rfl v hd hv q) k
theorem gLconst (X : Stand p l e R s m args below meth c T locs cells slots) (hx : p.tables.exec = Jvm.exec) {i : Fin 2} {v : Int64} (hd : decode c.code pc = .ok (.lconst i, 1)) (hv : Int64.ofNat i = v) (hp : pc + 1 = pc') (k : Goes p e below F T (mkF m pc' ls (.long v :: st))) : Goes p e below F T (mkF m pc ls st) := by
  subst hp; exact Goes.fore (fun _ q => XT.lconstV X.here hx rfl v hd hv q) k
theorem gNull (X : Stand p l e R s m args below meth c T locs cells slots) (hx : p.tables.exec = Jvm.exec)  (hd : decode c.code pc = .ok (.aconst_null, 1))  (hp : pc + 1 = pc') (k : Goes p e below F T (mkF m pc' ls (.null :: st))) : Goes p e below F T (mkF m pc ls st) := by
  subst hp; exact Goes.fore (fun _ q => XS.aconstNull X.here hx rfl hd q) k
theorem gLdc (X : Stand p l e R s m args below meth c T locs cells slots) (hx : p.tables.exec = Jvm.exec) {own : String} {i : Nat} {v : Int32} (hZ : Z.Warmed39 s.vm) (hown : s.vm.findClass own = some m.cls) (w : (Jvm.Cond.constant own i v).before a0 Z = true) (hd : decode c.code pc = .ok (.ldc i, 2))  (hp : pc + 2 = pc') (k : Goes p e below F T (mkF m pc' ls (.int v :: st))) : Goes p e below F T (mkF m pc ls st) := by
  subst hp; exact Goes.fore (fun _ q => X.ldcI hx hown (mvT hZ w) rfl hd q) k
theorem gLdcW (X : Stand p l e R s m args below meth c T locs cells slots) (hx : p.tables.exec = Jvm.exec) {own : String} {i : Nat} {v : Int32} (hZ : Z.Warmed39 s.vm) (hown : s.vm.findClass own = some m.cls) (w : (Jvm.Cond.constant own i v).before a0 Z = true) (hd : decode c.code pc = .ok (.ldc_w i, 3))  (hp : pc + 3 = pc') (k : Goes p e below F T (mkF m pc' ls (.int v :: st))) : Goes p e below F T (mkF m pc ls st) := by
  subst hp; exact Goes.fore (fun _ q => X.ldcWI hx hown (mvT hZ w) rfl hd q) k
theorem gLdc2 (X : Stand p l e R s m args below meth c T locs cells slots) (hx : p.tables.exec = Jvm.exec) {own : String} {i : Nat} {v : Int64} (hZ : Z.Warmed39 s.vm) (hown : s.vm.findClass own = some m.cls) (w : (Jvm.Cond.constantLong own i v).before a0 Z = true) (hd : decode c.code pc = .ok (.ldc2_w i, 3))  (hp : pc + 3 = pc') (k : Goes p e below F T (mkF m pc' ls (.long v :: st))) : Goes p e below F T (mkF m pc ls st) := by
  subst hp; exact Goes.fore (fun _ q => X.ldc2J hx hown (mvT hZ w) rfl hd q) k
theorem gIadd (X : Stand p l e R s m args below meth c T locs cells slots) (hx : p.tables.exec = Jvm.exec) {x y : Int32} (hd : decode c.code pc = .ok (.iadd, 1))  (hp : pc + 1 = pc') (k : Goes p e below F T (mkF m pc' ls (.int (x + y) :: st))) : Goes p e below F T (mkF m pc ls (.int y :: .int x :: st)) := by
  subst hp; exact Goes.fore (fun _ q => XS.iadd X.here hx rfl hd rfl q) k
theorem gIsub (X : Stand p l e R s m args below meth c T locs cells slots) (hx : p.tables.exec = Jvm.exec) {x y : Int32} (hd : decode c.code pc = .ok (.isub, 1))  (hp : pc + 1 = pc') (k : Goes p e below F T (mkF m pc' ls (.int (x - y) :: st))) : Goes p e below F T (mkF m pc ls (.int y :: .int x :: st)) := by
  subst hp; exact Goes.fore (fun _ q => XS.isub X.here hx rfl hd rfl q) k
theorem gImul (X : Stand p l e R s m args below meth c T locs cells slots) (hx : p.tables.exec = Jvm.exec) {x y : Int32} (hd : decode c.code pc = .ok (.imul, 1))  (hp : pc + 1 = pc') (k : Goes p e below F T (mkF m pc' ls (.int (x * y) :: st))) : Goes p e below F T (mkF m pc ls (.int y :: .int x :: st)) := by
  subst hp; exact Goes.fore (fun _ q => XS.imul X.here hx rfl hd rfl q) k
theorem gIand (X : Stand p l e R s m args below meth c T locs cells slots) (hx : p.tables.exec = Jvm.exec) {x y : Int32} (hd : decode c.code pc = .ok (.iand, 1))  (hp : pc + 1 = pc') (k : Goes p e below F T (mkF m pc' ls (.int (x &&& y) :: st))) : Goes p e below F T (mkF m pc ls (.int y :: .int x :: st)) := by
  subst hp; exact Goes.fore (fun _ q => XS.iand X.here hx rfl hd rfl q) k
theorem gIor (X : Stand p l e R s m args below meth c T locs cells slots) (hx : p.tables.exec = Jvm.exec) {x y : Int32} (hd : decode c.code pc = .ok (.ior, 1))  (hp : pc + 1 = pc') (k : Goes p e below F T (mkF m pc' ls (.int (x ||| y) :: st))) : Goes p e below F T (mkF m pc ls (.int y :: .int x :: st)) := by
  subst hp; exact Goes.fore (fun _ q => XS.ior X.here hx rfl hd rfl q) k
theorem gIxor (X : Stand p l e R s m args below meth c T locs cells slots) (hx : p.tables.exec = Jvm.exec) {x y : Int32} (hd : decode c.code pc = .ok (.ixor, 1))  (hp : pc + 1 = pc') (k : Goes p e below F T (mkF m pc' ls (.int (x ^^^ y) :: st))) : Goes p e below F T (mkF m pc ls (.int y :: .int x :: st)) := by
  subst hp; exact Goes.fore (fun _ q => XS.ixor X.here hx rfl hd rfl q) k
theorem gIshl (X : Stand p l e R s m args below meth c T locs cells slots) (hx : p.tables.exec = Jvm.exec) {x y : Int32} (hd : decode c.code pc = .ok (.ishl, 1))  (hp : pc + 1 = pc') (k : Goes p e below F T (mkF m pc' ls (.int (x <<< (y &&& 31)) :: st))) : Goes p e below F T (mkF m pc ls (.int y :: .int x :: st)) := by
  subst hp; exact Goes.fore (fun _ q => XS.ishl X.here hx rfl hd rfl q) k
theorem gIshr (X : Stand p l e R s m args below meth c T locs cells slots) (hx : p.tables.exec = Jvm.exec) {x y : Int32} (hd : decode c.code pc = .ok (.ishr, 1))  (hp : pc + 1 = pc') (k : Goes p e below F T (mkF m pc' ls (.int (x >>> (y &&& 31)) :: st))) : Goes p e below F T (mkF m pc ls (.int y :: .int x :: st)) := by
  subst hp; exact Goes.fore (fun _ q => XS.ishr X.here hx rfl hd rfl q) k
theorem gIushr (X : Stand p l e R s m args below meth c T locs cells slots) (hx : p.tables.exec = Jvm.exec) {x y : Int32} (hd : decode c.code pc = .ok (.iushr, 1))  (hp : pc + 1 = pc') (k : Goes p e below F T (mkF m pc' ls (.int ((x.toUInt32 >>> (y &&& 31).toUInt32).toInt32) :: st))) : Goes p e below F T (mkF m pc ls (.int y :: .int x :: st)) := by
  subst hp; exact Goes.fore (fun _ q => XS.iushr X.here hx rfl hd rfl q) k
theorem gLadd (X : Stand p l e R s m args below meth c T locs cells slots) (hx : p.tables.exec = Jvm.exec) {x y : Int64} (hd : decode c.code pc = .ok (.ladd, 1))  (hp : pc + 1 = pc') (k : Goes p e below F T (mkF m pc' ls (.long (x + y) :: st))) : Goes p e below F T (mkF m pc ls (.long y :: .long x :: st)) := by
  subst hp; exact Goes.fore (fun _ q => XS.ladd X.here hx rfl hd rfl q) k
theorem gLsub (X : Stand p l e R s m args below meth c T locs cells slots) (hx : p.tables.exec = Jvm.exec) {x y : Int64} (hd : decode c.code pc = .ok (.lsub, 1))  (hp : pc + 1 = pc') (k : Goes p e below F T (mkF m pc' ls (.long (x - y) :: st))) : Goes p e below F T (mkF m pc ls (.long y :: .long x :: st)) := by
  subst hp; exact Goes.fore (fun _ q => XS.lsub X.here hx rfl hd rfl q) k
theorem gLmul (X : Stand p l e R s m args below meth c T locs cells slots) (hx : p.tables.exec = Jvm.exec) {x y : Int64} (hd : decode c.code pc = .ok (.lmul, 1))  (hp : pc + 1 = pc') (k : Goes p e below F T (mkF m pc' ls (.long (x * y) :: st))) : Goes p e below F T (mkF m pc ls (.long y :: .long x :: st)) := by
  subst hp; exact Goes.fore (fun _ q => XS.lmul X.here hx rfl hd rfl q) k
theorem gLand (X : Stand p l e R s m args below meth c T locs cells slots) (hx : p.tables.exec = Jvm.exec) {x y : Int64} (hd : decode c.code pc = .ok (.land, 1))  (hp : pc + 1 = pc') (k : Goes p e below F T (mkF m pc' ls (.long (x &&& y) :: st))) : Goes p e below F T (mkF m pc ls (.long y :: .long x :: st)) := by
  subst hp; exact Goes.fore (fun _ q => XS.land X.here hx rfl hd rfl q) k
theorem gLor (X : Stand p l e R s m args below meth c T locs cells slots) (hx : p.tables.exec = Jvm.exec) {x y : Int64} (hd : decode c.code pc = .ok (.lor, 1))  (hp : pc + 1 = pc') (k : Goes p e below F T (mkF m pc' ls (.long (x ||| y) :: st))) : Goes p e below F T (mkF m pc ls (.long y :: .long x :: st)) := by
  subst hp; exact Goes.fore (fun _ q => XS.lor X.here hx rfl hd rfl q) k
theorem gLxor (X : Stand p l e R s m args below meth c T locs cells slots) (hx : p.tables.exec = Jvm.exec) {x y : Int64} (hd : decode c.code pc = .ok (.lxor, 1))  (hp : pc + 1 = pc') (k : Goes p e below F T (mkF m pc' ls (.long (x ^^^ y) :: st))) : Goes p e below F T (mkF m pc ls (.long y :: .long x :: st)) := by
  subst hp; exact Goes.fore (fun _ q => XS.lxor X.here hx rfl hd rfl q) k
theorem gLshl (X : Stand p l e R s m args below meth c T locs cells slots) (hx : p.tables.exec = Jvm.exec) {x : Int64} {y : Int32} (hd : decode c.code pc = .ok (.lshl, 1))  (hp : pc + 1 = pc') (k : Goes p e below F T (mkF m pc' ls (.long (x <<< (y &&& 0x3f).toInt64) :: st))) : Goes p e below F T (mkF m pc ls (.int y :: .long x :: st)) := by
  subst hp; exact Goes.fore (fun _ q => XS.lshl X.here hx rfl hd rfl q) k
theorem gLshr (X : Stand p l e R s m args below meth c T locs cells slots) (hx : p.tables.exec = Jvm.exec) {x : Int64} {y : Int32} (hd : decode c.code pc = .ok (.lshr, 1))  (hp : pc + 1 = pc') (k : Goes p e below F T (mkF m pc' ls (.long (x >>> (y &&& 0x3f).toInt64) :: st))) : Goes p e below F T (mkF m pc ls (.int y :: .long x :: st)) := by
  subst hp; exact Goes.fore (fun _ q => XS.lshr X.here hx rfl hd rfl q) k
theorem gLushr (X : Stand p l e R s m args below meth c T locs cells slots) (hx : p.tables.exec = Jvm.exec) {x : Int64} {y : Int32} (hd : decode c.code pc = .ok (.lushr, 1))  (hp : pc + 1 = pc') (k : Goes p e below F T (mkF m pc' ls (.long ((x.toUInt64 >>> (y &&& 0x3f).toInt64.toUInt64).toInt64) :: st))) : Goes p e below F T (mkF m pc ls (.int y :: .long x :: st)) := by
  subst hp; exact Goes.fore (fun _ q => XS.lushr X.here hx rfl hd rfl q) k
theorem gIdiv (X : Stand p l e R s m args below meth c T locs cells slots) (hx : p.tables.exec = Jvm.exec) {x y : Int32} (hd : decode c.code pc = .ok (.idiv, 1)) (hy : y ≠ 0) (hp : pc + 1 = pc') (k : Goes p e below F T (mkF m pc' ls (.int (x / y) :: st))) : Goes p e below F T (mkF m pc ls (.int y :: .int x :: st)) := by
  subst hp; exact Goes.fore (fun _ q => XS.idiv X.here hx rfl hd rfl hy q) k
theorem gIrem (X : Stand p l e R s m args below meth c T locs cells slots) (hx : p.tables.exec = Jvm.exec) {x y : Int32} (hd : decode c.code pc = .ok (.irem, 1)) (hy : y ≠ 0) (hp : pc + 1 = pc') (k : Goes p e below F T (mkF m pc' ls (.int (x % y) :: st))) : Goes p e below F T (mkF m pc ls (.int y :: .int x :: st)) := by
  subst hp; exact Goes.fore (fun _ q => iremM X hx rfl hd rfl hy q) k
theorem gIneg (X : Stand p l e R s m args below meth c T locs cells slots) (hx : p.tables.exec = Jvm.exec) {x : Int32} (hd : decode c.code pc = .ok (.ineg, 1))  (hp : pc + 1 = pc') (k : Goes p e below F T (mkF m pc' ls (.int (-x) :: st))) : Goes p e below F T (mkF m pc ls (.int x :: st)) := by
  subst hp; exact Goes.fore (fun _ q => XS.ineg X.here hx rfl hd rfl q) k
theorem gLneg (X : Stand p l e R s m args below meth c T locs cells slots) (hx : p.tables.exec = Jvm.exec) {x : Int64} (hd : decode c.code pc = .ok (.lneg, 1))  (hp : pc + 1 = pc') (k : Goes p e below F T (mkF m pc' ls (.long (-x) :: st))) : Goes p e below F T (mkF m pc ls (.long x :: st)) := by
  subst hp; exact Goes.fore (fun _ q => XS.lneg X.here hx rfl hd rfl q) k
theorem gI2l (X : Stand p l e R s m args below meth c T locs cells slots) (hx : p.tables.exec = Jvm.exec) {x : Int32} (hd : decode c.code pc = .ok (.i2l, 1))  (hp : pc + 1 = pc') (k : Goes p e below F T (mkF m pc' ls (.long (x.toInt64) :: st))) : Goes p e below F T (mkF m pc ls (.int x :: st)) := by
  subst hp; exact Goes.fore (fun _ q => XS.i2l X.here hx rfl hd rfl q) k
theorem gL2i (X : Stand p l e R s m args below meth c T locs cells slots) (hx : p.tables.exec = Jvm.exec) {x : Int64} (hd : decode c.code pc = .ok (.l2i, 1))  (hp : pc + 1 = pc') (k : Goes p e below F T (mkF m pc' ls (.int (x.toInt32) :: st))) : Goes p e below F T (mkF m pc ls (.long x :: st)) := by
  subst hp; exact Goes.fore (fun _ q => XS.l2i X.here hx rfl hd rfl q) k
theorem gI2b (X : Stand p l e R s m args below meth c T locs cells slots) (hx : p.tables.exec = Jvm.exec) {x : Int32} (hd : decode c.code pc = .ok (.i2b, 1))  (hp : pc + 1 = pc') (k : Goes p e below F T (mkF m pc' ls (.int (x.toInt8.toInt32) :: st))) : Goes p e below F T (mkF m pc ls (.int x :: st)) := by
  subst hp; exact Goes.fore (fun _ q => XS.i2b X.here hx rfl hd rfl q) k
theorem gI2c (X : Stand p l e R s m args below meth c T locs cells slots) (hx : p.tables.exec = Jvm.exec) {x : Int32} (hd : decode c.code pc = .ok (.i2c, 1))  (hp : pc + 1 = pc') (k : Goes p e below F T (mkF m pc' ls (.int (x.toUInt32.toUInt16.toUInt32.toInt32) :: st))) : Goes p e below F T (mkF m pc ls (.int x :: st)) := by
  subst hp; exact Goes.fore (fun _ q => XS.i2c X.here hx rfl hd rfl q) k
theorem gI2s (X : Stand p l e R s m args below meth c T locs cells slots) (hx : p.tables.exec = Jvm.exec) {x : Int32} (hd : decode c.code pc = .ok (.i2s, 1))  (hp : pc + 1 = pc') (k : Goes p e below F T (mkF m pc' ls (.int (x.toInt16.toInt32) :: st))) : Goes p e below F T (mkF m pc ls (.int x :: st)) := by
  subst hp; exact Goes.fore (fun _ q => XS.i2s X.here hx rfl hd rfl q) k
theorem gLcmp (X : Stand p l e R s m args below meth c T locs cells slots) (hx : p.tables.exec = Jvm.exec) {x y : Int64} (hd : decode c.code pc = .ok (.lcmp, 1))  (hp : pc + 1 = pc') (k : Goes p e below F T (mkF m pc' ls (.int (lcmpW x y) :: st))) : Goes p e below F T (mkF m pc ls (.long y :: .long x :: st)) := by
  subst hp; exact Goes.fore (fun _ q => XS.lcmp X.here hx rfl hd rfl q) k
theorem gIinc (X : Stand p l e R s m args below meth c T locs cells slots) (hx : p.tables.exec = Jvm.exec) {k : Nat} {i : Int} {x v : Int32} {l' : Array Slot} (hd : decode c.code pc = .ok (.iinc k i, 3)) (hv : Int32.ofInt i = v) (hl : ls[k]? = some (.val (.int x))) (hl' : storeLocals ls k (.int (x + v)) = some l') (hp : pc + 3 = pc') (k : Goes p e below F T (mkF m pc' l' st)) : Goes p e below F T (mkF m pc ls st) := by
  subst hp; exact Goes.fore (fun _ q => XT.iincV X.here hx rfl v hd hv hl hl' q) k
theorem gDup (X : Stand p l e R s m args below meth c T locs cells slots) (hx : p.tables.exec = Jvm.exec) {v : Value} (hd : decode c.code pc = .ok (.dup, 1)) (hv : v.category = 1) (hp : pc + 1 = pc') (k : Goes p e below F T (mkF m pc' ls (v :: v :: st))) : Goes p e below F T (mkF m pc ls (v :: st)) := by
  subst hp; exact Goes.fore (fun _ q => XS.dup X.here hx rfl hd rfl hv q) k
theorem gPop (X : Stand p l e R s m args below meth c T locs cells slots) (hx : p.tables.exec = Jvm.exec) {v : Value} (hd : decode c.code pc = .ok (.pop, 1)) (hv : v.category = 1) (hp : pc + 1 = pc') (k : Goes p e below F T (mkF m pc' ls st)) : Goes p e below F T (mkF m pc ls (v :: st)) := by
  subst hp; exact Goes.fore (fun _ q => XS.pop X.here hx rfl hd rfl hv q) k
theorem gDupX1 (X : Stand p l e R s m args below meth c T locs cells slots) (hx : p.tables.exec = Jvm.exec) {v w : Value} (hd : decode c.code pc = .ok (.dup_x1, 1)) (hv : v.category = 1) (hw : w.category = 1) (hp : pc + 1 = pc') (k : Goes p e below F T (mkF m pc' ls (v :: w :: v :: st))) : Goes p e below F T (mkF m pc ls (v :: w :: st)) := by
  subst hp; exact Goes.fore (fun _ q => XS.dupX1 X.here hx rfl hd rfl hv hw q) k
theorem gDup2 (X : Stand p l e R s m args below meth c T locs cells slots) (hx : p.tables.exec = Jvm.exec) {v w : Value} (hd : decode c.code pc = .ok (.dup2, 1)) (hv : v.category = 1) (hw : w.category = 1) (hp : pc + 1 = pc') (k : Goes p e below F T (mkF m pc' ls (v :: w :: v :: w :: st))) : Goes p e below F T (mkF m pc ls (v :: w :: st)) := by
  subst hp; exact Goes.fore (fun _ q => XT.dup2 X.here hx rfl hd rfl hv hw q) k
theorem gGoto (X : Stand p l e R s m args below meth c T locs cells slots) (hx : p.tables.exec = Jvm.exec) {o : Int} (hd : decode c.code pc = .ok (.goto o, 3)) (ho : 0 ≤ (pc : Int) + o) (hp : ((pc : Int) + o).toNat = pc') (k : Goes p e below F T (mkF m pc' ls st)) : Goes p e below F T (mkF m pc ls st) := Goes.fore (fun _ q => XS.goto X.here hx rfl rfl hd ho hp q) k
theorem gIcmp (X : Stand p l e R s m args below meth c T locs cells slots) (hx : p.tables.exec = Jvm.exec) {cd : ClassFile.Cond} {o : Int} {x y : Int32} {pn : Nat} (hd : decode c.code pc = .ok (.if_icmp cd o, 3)) (ho : 0 ≤ (pc : Int) + o) (hp : ((pc : Int) + o).toNat = pc') (hn : pc + 3 = pn) (kY : if_icmp.holds cd x y = true → Goes p e below F T (mkF m pc' ls st)) (kN : if_icmp.holds cd x y = false → Goes p e below F T (mkF m pn ls st)) : Goes p e below F T (mkF m pc ls (.int y :: .int x :: st)) := by
  subst hn
  cases hb : if_icmp.holds cd x y
  · exact Goes.fore (fun _ q => XS.icmpNo X.here hx rfl hd rfl hb q) (kN hb)
  · exact Goes.fore (fun _ q => XS.icmpYes X.here hx rfl rfl hd rfl hb ho hp q) (kY hb)
theorem gIf (X : Stand p l e R s m args below meth c T locs cells slots) (hx : p.tables.exec = Jvm.exec) {cd : ClassFile.Cond} {o : Int} {x : Int32} {pn : Nat} (hd : decode c.code pc = .ok (.ifCond cd o, 3)) (ho : 0 ≤ (pc : Int) + o) (hp : ((pc : Int) + o).toNat = pc') (hn : pc + 3 = pn) (kY : ifCond.holds cd x = true → Goes p e below F T (mkF m pc' ls st)) (kN : ifCond.holds cd x = false → Goes p e below F T (mkF m pn ls st)) : Goes p e below F T (mkF m pc ls (.int x :: st)) := by
  subst hn
  cases hb : ifCond.holds cd x
  · exact Goes.fore (fun _ q => XS.ifNo X.here hx rfl hd rfl hb q) (kN hb)
  · exact Goes.fore (fun _ q => XS.ifYes X.here hx rfl rfl hd rfl hb ho hp q) (kY hb)
theorem gIcmpEq (X : Stand p l e R s m args below meth c T locs cells slots) (hx : p.tables.exec = Jvm.exec) {o : Int} {x y : Int32} {pn : Nat} (hd : decode c.code pc = .ok (.if_icmp .eq o, 3)) (ho : 0 ≤ (pc : Int) + o) (hp : ((pc : Int) + o).toNat = pc') (hn : pc + 3 = pn) (kY : x = y → Goes p e below F T (mkF m pc' ls st)) (kN : ¬ x = y → Goes p e below F T (mkF m pn ls st)) : Goes p e below F T (mkF m pc ls (.int y :: .int x :: st)) :=
  gIcmp X hx hd ho hp hn (fun q => kY (by simpa [if_icmp.holds, Int32.lt_iff_toInt_lt, Int32.le_iff_toInt_le] using q)) (fun q => kN (by simpa [if_icmp.holds, Int32.lt_iff_toInt_lt, Int32.le_iff_toInt_le] using q))
theorem gIfEq (X : Stand p l e R s m args below meth c T locs cells slots) (hx : p.tables.exec = Jvm.exec) {o : Int} {x : Int32} {pn : Nat} (hd : decode c.code pc = .ok (.ifCond .eq o, 3)) (ho : 0 ≤ (pc : Int) + o) (hp : ((pc : Int) + o).toNat = pc') (hn : pc + 3 = pn) (kY : x = 0 → Goes p e below F T (mkF m pc' ls st)) (kN : ¬ x = 0 → Goes p e below F T (mkF m pn ls st)) : Goes p e below F T (mkF m pc ls (.int x :: st)) :=
  gIf X hx hd ho hp hn (fun q => kY (by simpa [ifCond.holds, Int32.lt_iff_toInt_lt, Int32.le_iff_toInt_le] using q)) (fun q => kN (by simpa [ifCond.holds, Int32.lt_iff_toInt_lt, Int32.le_iff_toInt_le] using q))
theorem gIcmpNe (X : Stand p l e R s m args below meth c T locs cells slots) (hx : p.tables.exec = Jvm.exec) {o : Int} {x y : Int32} {pn : Nat} (hd : decode c.code pc = .ok (.if_icmp .ne o, 3)) (ho : 0 ≤ (pc : Int) + o) (hp : ((pc : Int) + o).toNat = pc') (hn : pc + 3 = pn) (kY : ¬ x = y → Goes p e below F T (mkF m pc' ls st)) (kN : x = y → Goes p e below F T (mkF m pn ls st)) : Goes p e below F T (mkF m pc ls (.int y :: .int x :: st)) :=
  gIcmp X hx hd ho hp hn (fun q => kY (by simpa [if_icmp.holds, Int32.lt_iff_toInt_lt, Int32.le_iff_toInt_le] using q)) (fun q => kN (by simpa [if_icmp.holds, Int32.lt_iff_toInt_lt, Int32.le_iff_toInt_le] using q))
theorem gIfNe (X : Stand p l e R s m args below meth c T locs cells slots) (hx : p.tables.exec = Jvm.exec) {o : Int} {x : Int32} {pn : Nat} (hd : decode c.code pc = .ok (.ifCond .ne o, 3)) (ho : 0 ≤ (pc : Int) + o) (hp : ((pc : Int) + o).toNat = pc') (hn : pc + 3 = pn) (kY : ¬ x = 0 → Goes p e below F T (mkF m pc' ls st)) (kN : x = 0 → Goes p e below F T (mkF m pn ls st)) : Goes p e below F T (mkF m pc ls (.int x :: st)) :=
  gIf X hx hd ho hp hn (fun q => kY (by simpa [ifCond.holds, Int32.lt_iff_toInt_lt, Int32.le_iff_toInt_le] using q)) (fun q => kN (by simpa [ifCond.holds, Int32.lt_iff_toInt_lt, Int32.le_iff_toInt_le] using q))
theorem gIcmpLt (X : Stand p l e R s m args below meth c T locs cells slots) (hx : p.tables.exec = Jvm.exec) {o : Int} {x y : Int32} {pn : Nat} (hd : decode c.code pc = .ok (.if_icmp .lt o, 3)) (ho : 0 ≤ (pc : Int) + o) (hp : ((pc : Int) + o).toNat = pc') (hn : pc + 3 = pn) (kY : x.toInt < y.toInt → Goes p e below F T (mkF m pc' ls st)) (kN : y.toInt ≤ x.toInt → Goes p e below F T (mkF m pn ls st)) : Goes p e below F T (mkF m pc ls (.int y :: .int x :: st)) :=
  gIcmp X hx hd ho hp hn (fun q => kY (by simpa [if_icmp.holds, Int32.lt_iff_toInt_lt, Int32.le_iff_toInt_le] using q)) (fun q => kN (by simpa [if_icmp.holds, Int32.lt_iff_toInt_lt, Int32.le_iff_toInt_le] using q))
theorem gIfLt (X : Stand p l e R s m args below meth c T locs cells slots) (hx : p.tables.exec = Jvm.exec) {o : Int} {x : Int32} {pn : Nat} (hd : decode c.code pc = .ok (.ifCond .lt o, 3)) (ho : 0 ≤ (pc : Int) + o) (hp : ((pc : Int) + o).toNat = pc') (hn : pc + 3 = pn) (kY : x.toInt < (0 : Int) → Goes p e below F T (mkF m pc' ls st)) (kN : (0 : Int) ≤ x.toInt → Goes p e below F T (mkF m pn ls st)) : Goes p e below F T (mkF m pc ls (.int x :: st)) :=
  gIf X hx hd ho hp hn (fun q => kY (by simpa [ifCond.holds, Int32.lt_iff_toInt_lt, Int32.le_iff_toInt_le] using q)) (fun q => kN (by simpa [ifCond.holds, Int32.lt_iff_toInt_lt, Int32.le_iff_toInt_le] using q))
theorem gIcmpGe (X : Stand p l e R s m args below meth c T locs cells slots) (hx : p.tables.exec = Jvm.exec) {o : Int} {x y : Int32} {pn : Nat} (hd : decode c.code pc = .ok (.if_icmp .ge o, 3)) (ho : 0 ≤ (pc : Int) + o) (hp : ((pc : Int) + o).toNat = pc') (hn : pc + 3 = pn) (kY : y.toInt ≤ x.toInt → Goes p e below F T (mkF m pc' ls st)) (kN : x.toInt < y.toInt → Goes p e below F T (mkF m pn ls st)) : Goes p e below F T (mkF m pc ls (.int y :: .int x :: st)) :=
  gIcmp X hx hd ho hp hn (fun q => kY (by simpa [if_icmp.holds, Int32.lt_iff_toInt_lt, Int32.le_iff_toInt_le] using q)) (fun q => kN (by simpa [if_icmp.holds, Int32.lt_iff_toInt_lt, Int32.le_iff_toInt_le] using q))
theorem gIfGe (X : Stand p l e R s m args below meth c T locs cells slots) (hx : p.tables.exec = Jvm.exec) {o : Int} {x : Int32} {pn : Nat} (hd : decode c.code pc = .ok (.ifCond .ge o, 3)) (ho : 0 ≤ (pc : Int) + o) (hp : ((pc : Int) + o).toNat = pc') (hn : pc + 3 = pn) (kY : (0 : Int) ≤ x.toInt → Goes p e below F T (mkF m pc' ls st)) (kN : x.toInt < (0 : Int) → Goes p e below F T (mkF m pn ls st)) : Goes p e below F T (mkF m pc ls (.int x :: st)) :=
  gIf X hx hd ho hp hn (fun q => kY (by simpa [ifCond.holds, Int32.lt_iff_toInt_lt, Int32.le_iff_toInt_le] using q)) (fun q => kN (by simpa [ifCond.holds, Int32.lt_iff_toInt_lt, Int32.le_iff_toInt_le] using q))
theorem gIcmpGt (X : Stand p l e R s m args below meth c T locs cells slots) (hx : p.tables.exec = Jvm.exec) {o : Int} {x y : Int32} {pn : Nat} (hd : decode c.code pc = .ok (.if_icmp .gt o, 3)) (ho : 0 ≤ (pc : Int) + o) (hp : ((pc : Int) + o).toNat = pc') (hn : pc + 3 = pn) (kY : y.toInt < x.toInt → Goes p e below F T (mkF m pc' ls st)) (kN : x.toInt ≤ y.toInt → Goes p e below F T (mkF m pn ls st)) : Goes p e below F T (mkF m pc ls (.int y :: .int x :: st)) :=
  gIcmp X hx hd ho hp hn (fun q => kY (by simpa [if_icmp.holds, Int32.lt_iff_toInt_lt, Int32.le_iff_toInt_le] using q)) (fun q => kN (by simpa [if_icmp.holds, Int32.lt_iff_toInt_lt, Int32.le_iff_toInt_le] using q))
theorem gIfGt (X : Stand p l e R s m args below meth c T locs cells slots) (hx : p.tables.exec = Jvm.exec) {o : Int} {x : Int32} {pn : Nat} (hd : decode c.code pc = .ok (.ifCond .gt o, 3)) (ho : 0 ≤ (pc : Int) + o) (hp : ((pc : Int) + o).toNat = pc') (hn : pc + 3 = pn) (kY : (0 : Int) < x.toInt → Goes p e below F T (mkF m pc' ls st)) (kN : x.toInt ≤ (0 : Int) → Goes p e below F T (mkF m pn ls st)) : Goes p e below F T (mkF m pc ls (.int x :: st)) :=
  gIf X hx hd ho hp hn (fun q => kY (by simpa [ifCond.holds, Int32.lt_iff_toInt_lt, Int32.le_iff_toInt_le] using q)) (fun q => kN (by simpa [ifCond.holds, Int32.lt_iff_toInt_lt, Int32.le_iff_toInt_le] using q))
theorem gIcmpLe (X : Stand p l e R s m args below meth c T locs cells slots) (hx : p.tables.exec = Jvm.exec) {o : Int} {x y : Int32} {pn : Nat} (hd : decode c.code pc = .ok (.if_icmp .le o, 3)) (ho : 0 ≤ (pc : Int) + o) (hp : ((pc : Int) + o).toNat = pc') (hn : pc + 3 = pn) (kY : x.toInt ≤ y.toInt → Goes p e below F T (mkF m pc' ls st)) (kN : y.toInt < x.toInt → Goes p e below F T (mkF m pn ls st)) : Goes p e below F T (mkF m pc ls (.int y :: .int x :: st)) :=
  gIcmp X hx hd ho hp hn (fun q => kY (by simpa [if_icmp.holds, Int32.lt_iff_toInt_lt, Int32.le_iff_toInt_le] using q)) (fun q => kN (by simpa [if_icmp.holds, Int32.lt_iff_toInt_lt, Int32.le_iff_toInt_le] using q))
theorem gIfLe (X : Stand p l e R s m args below meth c T locs cells slots) (hx : p.tables.exec = Jvm.exec) {o : Int} {x : Int32} {pn : Nat} (hd : decode c.code pc = .ok (.ifCond .le o, 3)) (ho : 0 ≤ (pc : Int) + o) (hp : ((pc : Int) + o).toNat = pc') (hn : pc + 3 = pn) (kY : x.toInt ≤ (0 : Int) → Goes p e below F T (mkF m pc' ls st)) (kN : (0 : Int) < x.toInt → Goes p e below F T (mkF m pn ls st)) : Goes p e below F T (mkF m pc ls (.int x :: st)) :=
  gIf X hx hd ho hp hn (fun q => kY (by simpa [ifCond.holds, Int32.lt_iff_toInt_lt, Int32.le_iff_toInt_le] using q)) (fun q => kN (by simpa [ifCond.holds, Int32.lt_iff_toInt_lt, Int32.le_iff_toInt_le] using q))
theorem gIcmpEqT (X : Stand p l e R s m args below meth c T locs cells slots) (hx : p.tables.exec = Jvm.exec) {o : Int} {x y : Int32} {pn : Nat} (hd : decode c.code pc = .ok (.if_icmp .eq o, 3)) (ho : 0 ≤ (pc : Int) + o) (hp : ((pc : Int) + o).toNat = pc') (hn : pc + 3 = pn) (kY : x.toInt = y.toInt → Goes p e below F T (mkF m pc' ls st)) (kN : ¬ x.toInt = y.toInt → Goes p e below F T (mkF m pn ls st)) : Goes p e below F T (mkF m pc ls (.int y :: .int x :: st)) :=
  gIcmpEq X hx hd ho hp hn (fun q => kY ((Int32.toInt_inj (x := x) (y := y)).mpr q)) (fun q => kN (fun z => q ((Int32.toInt_inj (x := x) (y := y)).mp z)))
theorem gIfEqT (X : Stand p l e R s m args below meth c T locs cells slots) (hx : p.tables.exec = Jvm.exec) {o : Int} {x : Int32} {pn : Nat} (hd : decode c.code pc = .ok (.ifCond .eq o, 3)) (ho : 0 ≤ (pc : Int) + o) (hp : ((pc : Int) + o).toNat = pc') (hn : pc + 3 = pn) (kY : x.toInt = (0 : Int) → Goes p e below F T (mkF m pc' ls st)) (kN : ¬ x.toInt = (0 : Int) → Goes p e below F T (mkF m pn ls st)) : Goes p e below F T (mkF m pc ls (.int x :: st)) :=
  gIfEq X hx hd ho hp hn (fun q => kY ((Int32.toInt_inj (x := x) (y := 0)).mpr q)) (fun q => kN (fun z => q ((Int32.toInt_inj (x := x) (y := 0)).mp z)))
theorem gIcmpNeT (X : Stand p l e R s m args below meth c T locs cells slots) (hx : p.tables.exec = Jvm.exec) {o : Int} {x y : Int32} {pn : Nat} (hd : decode c.code pc = .ok (.if_icmp .ne o, 3)) (ho : 0 ≤ (pc : Int) + o) (hp : ((pc : Int) + o).toNat = pc') (hn : pc + 3 = pn) (kY : ¬ x.toInt = y.toInt → Goes p e below F T (mkF m pc' ls st)) (kN : x.toInt = y.toInt → Goes p e below F T (mkF m pn ls st)) : Goes p e below F T (mkF m pc ls (.int y :: .int x :: st)) :=
  gIcmpNe X hx hd ho hp hn (fun q => kY (fun z => q ((Int32.toInt_inj (x := x) (y := y)).mp z))) (fun q => kN ((Int32.toInt_inj (x := x) (y := y)).mpr q))
theorem gIfNeT (X : Stand p l e R s m args below meth c T locs cells slots) (hx : p.tables.exec = Jvm.exec) {o : Int} {x : Int32} {pn : Nat} (hd : decode c.code pc = .ok (.ifCond .ne o, 3)) (ho : 0 ≤ (pc : Int) + o) (hp : ((pc : Int) + o).toNat = pc') (hn : pc + 3 = pn) (kY : ¬ x.toInt = (0 : Int) → Goes p e below F T (mkF m pc' ls st)) (kN : x.toInt = (0 : Int) → Goes p e below F T (mkF m pn ls st)) : Goes p e below F T (mkF m pc ls (.int x :: st)) :=
  gIfNe X hx hd ho hp hn (fun q => kY (fun z => q ((Int32.toInt_inj (x := x) (y := 0)).mp z))) (fun q => kN ((Int32.toInt_inj (x := x) (y := 0)).mpr q))
theorem gAcmp (X : Stand p l e R s m args below meth c T locs cells slots) (hx : p.tables.exec = Jvm.exec) {cd : ClassFile.ACond} {o : Int} {x y : Value} {pn : Nat} (hd : decode c.code pc = .ok (.if_acmp cd o, 3)) (h1 : x.isRef = true) (h2 : y.isRef = true) (ho : 0 ≤ (pc : Int) + o) (hp : ((pc : Int) + o).toNat = pc') (hn : pc + 3 = pn) (kS : x = y → Goes p e below F T (mkF m (match cd with | .eq => pc' | .ne => pn) ls st)) (kD : ¬ x = y → Goes p e below F T (mkF m (match cd with | .eq => pn | .ne => pc') ls st)) : Goes p e below F T (mkF m pc ls (y :: x :: st)) := by
  subst hn hp
  by_cases q : x = y
  · refine Goes.fore (fun _ k => acmp X hx rfl h1 h2 (same := true) rfl hd rfl (decide_eq_true q) ho rfl k) ?_
    have := kS q; cases cd <;> simpa [acV] using this
  · refine Goes.fore (fun _ k => acmp X hx rfl h1 h2 (same := false) rfl hd rfl (decide_eq_false q) ho rfl k) ?_
    have := kD q; cases cd <;> simpa [acV] using this
theorem gAcmpEq (X : Stand p l e R s m args below meth c T locs cells slots) (hx : p.tables.exec = Jvm.exec) {o : Int} {x y : Value} {pn : Nat} (hd : decode c.code pc = .ok (.if_acmp .eq o, 3)) (h1 : x.isRef = true) (h2 : y.isRef = true) (ho : 0 ≤ (pc : Int) + o) (hp : ((pc : Int) + o).toNat = pc') (hn : pc + 3 = pn) (kY : x = y → Goes p e below F T (mkF m pc' ls st)) (kN : ¬ x = y → Goes p e below F T (mkF m pn ls st)) : Goes p e below F T (mkF m pc ls (y :: x :: st)) := gAcmp X hx hd h1 h2 ho hp hn kY kN
theorem gAcmpNe (X : Stand p l e R s m args below meth c T locs cells slots) (hx : p.tables.exec = Jvm.exec) {o : Int} {x y : Value} {pn : Nat} (hd : decode c.code pc = .ok (.if_acmp .ne o, 3)) (h1 : x.isRef = true) (h2 : y.isRef = true) (ho : 0 ≤ (pc : Int) + o) (hp : ((pc : Int) + o).toNat = pc') (hn : pc + 3 = pn) (kY : ¬ x = y → Goes p e below F T (mkF m pc' ls st)) (kN : x = y → Goes p e below F T (mkF m pn ls st)) : Goes p e below F T (mkF m pc ls (y :: x :: st)) := gAcmp X hx hd h1 h2 ho hp hn kN kY
theorem gIfnullZ (X : Stand p l e R s m args below meth c T locs cells slots) (hx : p.tables.exec = Jvm.exec) {o : Int} (hd : decode c.code pc = .ok (.ifnull o, 3)) (ho : 0 ≤ (pc : Int) + o) (hp : ((pc : Int) + o).toNat = pc') (k : Goes p e below F T (mkF m pc' ls st)) : Goes p e below F T (mkF m pc ls (.null :: st)) := Goes.fore (fun _ q => XS.ifnullYes X.here hx rfl rfl hd rfl ho hp q) k
theorem gIfnullR (X : Stand p l e R s m args below meth c T locs cells slots) (hx : p.tables.exec = Jvm.exec) {o : Int} {b : Addr} (hd : decode c.code pc = .ok (.ifnull o, 3)) (hp : pc + 3 = pc') (k : Goes p e below F T (mkF m pc' ls st)) : Goes p e below F T (mkF m pc ls (.ref b :: st)) := by
  subst hp; exact Goes.fore (fun _ q => XS.ifnullNo X.here hx rfl hd rfl q) k
theorem gIfnonnullZ (X : Stand p l e R s m args below meth c T locs cells slots) (hx : p.tables.exec = Jvm.exec) {o : Int} (hd : decode c.code pc = .ok (.ifnonnull o, 3)) (hp : pc + 3 = pc') (k : Goes p e below F T (mkF m pc' ls st)) : Goes p e below F T (mkF m pc ls (.null :: st)) := by
  subst hp; exact Goes.fore (fun _ q => XS.ifnonnullNo X.here hx rfl hd rfl q) k
theorem gIfnonnullR (X : Stand p l e R s m args below meth c T locs cells slots) (hx : p.tables.exec = Jvm.exec) {o : Int} {b : Addr} (hd : decode c.code pc = .ok (.ifnonnull o, 3)) (ho : 0 ≤ (pc : Int) + o) (hp : ((pc : Int) + o).toNat = pc') (k : Goes p e below F T (mkF m pc' ls st)) : Goes p e below F T (mkF m pc ls (.ref b :: st)) := Goes.fore (fun _ q => XS.ifnonnullYes X.here hx rfl rfl hd rfl ho hp q) k
theorem gRet0 {v : Option Value} (X : Stand p l e R s m args below meth c T locs cells slots) (hx : p.tables.exec = Jvm.exec) (hlk : meth.locks = false) (hv : meth.sig.returnType = none → v = none) (hk : cells ≤ kc) (hs : slots ≤ ks) (hq : Q v T.heap locs) {g : JFrame}
    (k : ∀ fs, (∀ (f : JFrame) (acts : List Action), f.method = m → f.locked = none → f.entered = [] → (doReturn e (T.setTop f) acts v).1 = T.setFrames fs) → Steps p.tables e below (T.setTop g) (T.setFrames fs)) : Goes p e below (FinN s kc ks Q) T g := by
  obtain ⟨fs, hr, hrun, hended, hW, hsame⟩ := X.leave hv hlk
  exact ⟨_, _, k fs hr, hrun, hended, _, _, rfl, hq, ⟨_, rfl⟩, hW, hsame.mono hk hs⟩
theorem gRetV (X : Stand p l e R s m args below meth c T locs cells slots) (hx : p.tables.exec = Jvm.exec) (hlk : meth.locks = false) (hret : meth.sig.returnType = none) (hd : decode c.code pc = .ok (.return_, 1)) (hk : cells ≤ kc) (hs : slots ≤ ks) (hq : Q none T.heap locs) : Goes p e below (FinN s kc ks Q) T (mkF m pc ls []) :=
  gRet0 X hx hlk (fun _ => rfl) hk hs hq fun fs hr => X.returnOut hx hret hd hr
theorem gRetN (X : Stand p l e R s m args below meth c T locs cells slots) (hx : p.tables.exec = Jvm.exec) (hlk : meth.locks = false) {t : FieldType} (hret : meth.sig.returnType = some t) (ht : t = .boolean ∨ t = .byte ∨ t = .char ∨ t = .short) {z w : Int32} (hd : decode c.code pc = .ok (.ireturn, 1)) (hw : nar t z = w) (hk : cells ≤ kc) (hs : slots ≤ ks) (hq : Q (some (.int w)) T.heap locs) : Goes p e below (FinN s kc ks Q) T (mkF m pc ls (.int z :: st)) := by
  subst hw
  exact gRet0 X hx hlk (fun h => by rw [hret] at h; cases h) hk hs hq fun fs hr => retN X hx hret ht hd hr
theorem gRetI (X : Stand p l e R s m args below meth c T locs cells slots) (hx : p.tables.exec = Jvm.exec) (hlk : meth.locks = false) (hret : meth.sig.returnType = some .int) {z : Int32} (hd : decode c.code pc = .ok (.ireturn, 1)) (hk : cells ≤ kc) (hs : slots ≤ ks) (hq : Q (some (.int z)) T.heap locs) : Goes p e below (FinN s kc ks Q) T (mkF m pc ls (.int z :: st)) :=
  gRet0 X hx hlk (fun h => by rw [hret] at h; cases h) hk hs hq fun fs hr => retOut X hx hret rfl (Or.inl ⟨rfl, Or.inl rfl, z, rfl⟩) hd hr
theorem gRetJ (X : Stand p l e R s m args below meth c T locs cells slots) (hx : p.tables.exec = Jvm.exec) (hlk : meth.locks = false) (hret : meth.sig.returnType = some .long) {z : Int64} (hd : decode c.code pc = .ok (.lreturn, 1)) (hk : cells ≤ kc) (hs : slots ≤ ks) (hq : Q (some (.long z)) T.heap locs) : Goes p e below (FinN s kc ks Q) T (mkF m pc ls (.long z :: st)) :=
  gRet0 X hx hlk (fun h => by rw [hret] at h; cases h) hk hs hq fun fs hr => retOut X hx hret rfl (Or.inr (Or.inl ⟨rfl, rfl, z, rfl⟩)) hd hr
theorem gRetA (X : Stand p l e R s m args below meth c T locs cells slots) (hx : p.tables.exec = Jvm.exec) (hlk : meth.locks = false) {t : FieldType} (hret : meth.sig.returnType = some t) (ht : t.isReference = true) {v : Value} (hv : v.isRef = true) (hd : decode c.code pc = .ok (.areturn, 1)) (hk : cells ≤ kc) (hs : slots ≤ ks) (hq : Q (some v) T.heap locs) : Goes p e below (FinN s kc ks Q) T (mkF m pc ls (v :: st)) :=
  gRet0 X hx hlk (fun h => by rw [hret] at h; cases h) hk hs hq fun fs hr => retOut X hx hret (by cases t <;> first | rfl | cases ht) (Or.inr (Or.inr (Or.inr (Or.inr ⟨rfl, ht, hv⟩)))) hd hr
theorem gGetS (X : Stand p l e R s m args below meth c T locs cells slots) (hx : p.tables.exec = Jvm.exec) (hZ : Z.Warmed39 s.vm) {own R0 O n d : String} {i : Nat} (hown : s.vm.findClass own = some m.cls) (w : (Jvm.Cond.fieldLink own i R0 n d).before a0 Z = true) (via : Via Z R0 O n d) (eT : T.heap = h) {v : Value} (Fa : Sta Z h O n d v) (hd : decode c.code pc = .ok (.getstatic i, 3)) (hp : pc + 3 = pc')
    (k : ∀ T', Stand p l e R s m args below meth c T' locs cells slots → T'.heap = h → Goes p e below F T' (mkF m pc' ls (v :: st))) : Goes p e below F T (mkF m pc ls st) := by
  subst hp
  obtain ⟨T', X', e', st'⟩ := getS X hx hZ (host := "") hown w via eT Fa (g := mkF m pc ls st) rfl hd
  exact Goes.fore st' (k T' X' e')
theorem gGetF (X : Stand p l e R s m args below meth c T locs cells slots) (hx : p.tables.exec = Jvm.exec) (hZ : Z.Warmed39 s.vm) {own R0 O n d : String} {i : Nat} (hown : s.vm.findClass own = some m.cls) (w : (Jvm.Cond.fieldLink own i R0 n d).before a0 Z = true) (via : Via Z R0 O n d) (eT : T.heap = h) {a : Addr} {v : Value} (Fa : Fld Z h a O n d v) (hd : decode c.code pc = .ok (.getfield i, 3)) (hp : pc + 3 = pc')
    (k : ∀ T', Stand p l e R s m args below meth c T' locs cells slots → T'.heap = h → Goes p e below F T' (mkF m pc' ls (v :: st))) : Goes p e below F T (mkF m pc ls (.ref a :: st)) := by
  subst hp
  obtain ⟨T', X', e', st'⟩ := getF X hx hZ (host := "") hown (Or.inl w) via eT Fa (g := mkF m pc ls (.ref a :: st)) rfl rfl hd
  exact Goes.fore st' (k T' X' e')
theorem gCallS (X : Stand p l e R s m args below meth c T locs cells slots) (hx : p.tables.exec = Jvm.exec) (hZ : Z.Warmed39 s.vm) {y : MethodName} {bytes : ByteArray} {maxL : Nat} {ret : Option FieldType} {rm : Room} {own : String} {i : Nat} {Qc : Option Value → Heap → List Loc → Prop} (hown : s.vm.findClass own = some m.cls) (eT : T.heap = h) (hml : ls.size = c.maxLocals)
    (w1 : (Jvm.Cond.methodLink own i y).before a0 Z = true) (w2 : (Jvm.Cond.static y).before a0 Z = true) (w3 : (Jvm.Cond.initialized y.cls).before a0 Z = true) (w4 : (Jvm.Cond.code y bytes maxL ret).before a0 Z = true) (hy : y.cls ≠ "java/lang/invoke/MethodHandle" ∧ y.cls ≠ "java/lang/invoke/VarHandle")
    {argsL : List Value} {stk : List Value} (hC : Ctr l Z y bytes maxL ret [] rm argsL.toArray h Qc) (hlen : ∀ sig, parseMethodDescriptor y.desc = some sig → argsL.length = sig.parameters.length) (hd : decode c.code pc = .ok (.invokestatic i, 3)) (hp : pc + 3 = pc') (hst : stk = argsL.reverse ++ st)
    (hf : rm.frames + 1 ≤ R.frames) {W : Nat} (hW : (st.map fun v => v.category).sum ≤ W) (hlo : W + (maxL + 11) + rm.locals ≤ R.locals) (hce : cells + rm.cells ≤ R.cells) (hsl : slots + rm.slots ≤ R.slots)
    (k : ∀ T' v L, Stand p l e R s m args below meth c T' (locs ++ L) (cells + rm.cells) (slots + rm.slots) → Qc v T'.heap L → Goes p e below F T' (mkF m pc' ls (v.toList ++ st))) : Goes p e below F T (mkF m pc ls stk) := by
  subst hp hst
  obtain ⟨v, _, ⟨T', L', k', n'⟩, -, X', ⟨Lc, hQ, l1, y1, z1⟩, st'⟩ := Jvm.LawKit.callS X hx (y := y) hown (mvT hZ w1) (mvT hZ w2) (mvT hZ w3) (mvT hZ w4) hy (backOf (W := W) hC hZ w4 w3 hf hlo) (g := mkF m pc ls (argsL.reverse ++ st)) rfl hml (argsL := argsL) (rest := st) hlen rfl (by show 2 * 0 + _ ≤ _; omega) hd (fun _ _ => ⟨rfl, eT, hce, hsl⟩)
  dsimp only [Pt.U, Pt.locs, Pt.cells, Pt.slots] at X' l1 y1 z1 st' hQ
  subst l1 y1 z1
  exact Goes.fore st' (k T' v Lc X' hQ)
theorem gCallSJ (X : Stand p l e R s m args below meth c T locs cells slots) (hx : p.tables.exec = Jvm.exec) (hZ : Z.Warmed39 s.vm) {y : MethodName} {bytes : ByteArray} {maxL : Nat} {ret : Option FieldType} {rm : Room} {own : String} {i : Nat} {w : Value} (hown : s.vm.findClass own = some m.cls) (eT : T.heap = h) (hml : ls.size = c.maxLocals)
    (w1 : (Jvm.Cond.methodLink own i y).before a0 Z = true) (w2 : (Jvm.Cond.static y).before a0 Z = true) (w3 : (Jvm.Cond.initialized y.cls).before a0 Z = true) (w4 : (Jvm.Cond.code y bytes maxL ret).before a0 Z = true) (hy : y.cls ≠ "java/lang/invoke/MethodHandle" ∧ y.cls ≠ "java/lang/invoke/VarHandle")
    {argsL : List Value} {stk : List Value} (hC : Ctr l Z y bytes maxL ret [] rm argsL.toArray h (Just h w)) (hlen : ∀ sig, parseMethodDescriptor y.desc = some sig → argsL.length = sig.parameters.length) (hd : decode c.code pc = .ok (.invokestatic i, 3)) (hp : pc + 3 = pc') (hst : stk = argsL.reverse ++ st)
    (h0c : rm.cells = 0) (h0s : rm.slots = 0) (hf : rm.frames + 1 ≤ R.frames) {W : Nat} (hW : (st.map fun v => v.category).sum ≤ W) (hlo : W + (maxL + 11) + rm.locals ≤ R.locals) (hce : cells + rm.cells ≤ R.cells) (hsl : slots + rm.slots ≤ R.slots)
    (k : ∀ T', Stand p l e R s m args below meth c T' locs cells slots → T'.heap = h → Goes p e below F T' (mkF m pc' ls (w :: st))) : Goes p e below F T (mkF m pc ls stk) := by
  refine gCallS X hx hZ hown eT hml w1 w2 w3 w4 hy hC hlen hd hp hst hf hW hlo hce hsl ?_
  rintro T' v L X' ⟨rfl, e', rfl⟩
  rw [List.append_nil, h0c, h0s] at X'
  exact k T' X' e'
theorem gCallV (X : Stand p l e R s m args below meth c T locs cells slots) (hx : p.tables.exec = Jvm.exec) (hZ : Z.Warmed39 s.vm) {y : MethodName} {bytes : ByteArray} {maxL : Nat} {ret : Option FieldType} {rm : Room} {own : String} {i : Nat} {Qc : Option Value → Heap → List Loc → Prop} {C : String} {a : Addr} (hown : s.vm.findClass own = some m.cls) (eT : T.heap = h) (hml : ls.size = c.maxLocals) (E : Exa Z h a C)
    (w1 : (Jvm.Cond.methodLink own i y).before a0 Z = true) (w2 : (Jvm.Cond.declares y).before a0 Z = true) (w5 : (Jvm.Cond.selects C y y).before a0 Z = true) (w6 : (Jvm.Cond.instanceMethod y).before a0 Z = true) (w3 : (Jvm.Cond.initialized y.cls).before a0 Z = true) (w4 : (Jvm.Cond.code y bytes maxL ret).before a0 Z = true) (hy : y.cls ≠ "java/lang/invoke/MethodHandle" ∧ y.cls ≠ "java/lang/invoke/VarHandle")
    {argsL : List Value} {stk : List Value} (hC : Ctr l Z y bytes maxL ret [] rm (.ref a :: argsL).toArray h Qc) (hlen : ∀ sig, parseMethodDescriptor y.desc = some sig → argsL.length = sig.parameters.length) (hd : decode c.code pc = .ok (.invokevirtual i, 3)) (hp : pc + 3 = pc') (hst : stk = argsL.reverse ++ .ref a :: st)
    (hf : rm.frames + 1 ≤ R.frames) {W : Nat} (hW : (st.map fun v => v.category).sum ≤ W) (hlo : W + (maxL + 11) + rm.locals ≤ R.locals) (hce : cells + rm.cells ≤ R.cells) (hsl : slots + rm.slots ≤ R.slots)
    (k : ∀ T' v L, Stand p l e R s m args below meth c T' (locs ++ L) (cells + rm.cells) (slots + rm.slots) → Qc v T'.heap L → Goes p e below F T' (mkF m pc' ls (v.toList ++ st))) : Goes p e below F T (mkF m pc ls stk) := by
  subst hp hst
  obtain ⟨cq, kq, qa, qb, qc⟩ := isOf hZ eT E
  obtain ⟨v, _, ⟨T', L', k', n'⟩, -, X', ⟨Lc, hQ, l1, y1, z1⟩, st'⟩ := X.virtualBack hx (y := y) (z := y) hown (mvT hZ w1) (mvT hZ w2) (notFace_of_selects (args := #[]) (mvT hZ w5)) (mvT hZ w5) (mvT hZ w6) hy (backOf (W := W) hC hZ w4 w3 hf hlo) qa qc (g := mkF m pc ls (argsL.reverse ++ .ref a :: st)) rfl hml (Steps.refl _) (argsL := argsL) (rest := st) hlen rfl (by show 2 * 0 + _ ≤ _; omega) hd (fun _ _ => ⟨rfl, eT, hce, hsl⟩)
  dsimp only [Pt.U, Pt.locs, Pt.cells, Pt.slots] at X' l1 y1 z1 st' hQ
  subst l1 y1 z1
  exact Goes.tr st' (k T' v Lc X' hQ)
theorem gCallVJ (X : Stand p l e R s m args below meth c T locs cells slots) (hx : p.tables.exec = Jvm.exec) (hZ : Z.Warmed39 s.vm) {y : MethodName} {bytes : ByteArray} {maxL : Nat} {ret : Option FieldType} {rm : Room} {own : String} {i : Nat} {w : Value} {C : String} {a : Addr} (hown : s.vm.findClass own = some m.cls) (eT : T.heap = h) (hml : ls.size = c.maxLocals) (E : Exa Z h a C)
    (w1 : (Jvm.Cond.methodLink own i y).before a0 Z = true) (w2 : (Jvm.Cond.declares y).before a0 Z = true) (w5 : (Jvm.Cond.selects C y y).before a0 Z = true) (w6 : (Jvm.Cond.instanceMethod y).before a0 Z = true) (w3 : (Jvm.Cond.initialized y.cls).before a0 Z = true) (w4 : (Jvm.Cond.code y bytes maxL ret).before a0 Z = true) (hy : y.cls ≠ "java/lang/invoke/MethodHandle" ∧ y.cls ≠ "java/lang/invoke/VarHandle")
    {argsL : List Value} {stk : List Value} (hC : Ctr l Z y bytes maxL ret [] rm (.ref a :: argsL).toArray h (Just h w)) (hlen : ∀ sig, parseMethodDescriptor y.desc = some sig → argsL.length = sig.parameters.length) (hd : decode c.code pc = .ok (.invokevirtual i, 3)) (hp : pc + 3 = pc') (hst : stk = argsL.reverse ++ .ref a :: st)
    (h0c : rm.cells = 0) (h0s : rm.slots = 0) (hf : rm.frames + 1 ≤ R.frames) {W : Nat} (hW : (st.map fun v => v.category).sum ≤ W) (hlo : W + (maxL + 11) + rm.locals ≤ R.locals) (hce : cells + rm.cells ≤ R.cells) (hsl : slots + rm.slots ≤ R.slots)
    (k : ∀ T', Stand p l e R s m args below meth c T' locs cells slots → T'.heap = h → Goes p e below F T' (mkF m pc' ls (w :: st))) : Goes p e below F T (mkF m pc ls stk) := by
  refine gCallV X hx hZ hown eT hml E w1 w2 w5 w6 w3 w4 hy hC hlen hd hp hst hf hW hlo hce hsl ?_
  rintro T' v L X' ⟨rfl, e', rfl⟩
  rw [List.append_nil, h0c, h0s] at X'
  exact k T' X' e'
theorem gLIfEq (X : Stand p l e R s m args below meth c T locs cells slots) (hx : p.tables.exec = Jvm.exec) {o : Int} {x y : Int64} {pn : Nat} (hd : decode c.code pc = .ok (.ifCond .eq o, 3)) (ho : 0 ≤ (pc : Int) + o) (hp : ((pc : Int) + o).toNat = pc') (hn : pc + 3 = pn) (kY : x = y → Goes p e below F T (mkF m pc' ls st)) (kN : ¬ x = y → Goes p e below F T (mkF m pn ls st)) : Goes p e below F T (mkF m pc ls (.int (lcmpW x y) :: st)) := by
  have z := lw_eq x y
  refine gIf X hx hd ho hp hn (fun q => kY ?_) (fun q => kN ?_) <;> simp only [ifCond.holds, decide_eq_true_eq, decide_eq_false_iff_not, beq_iff_eq, bne_iff_ne, Int32.not_lt, Int32.not_le, Int32.lt_iff_toInt_lt, Int32.le_iff_toInt_le, Int64.lt_iff_toInt_lt, ← Int32.toInt_inj, beq_eq_false_iff_ne, bne_eq_false_iff_eq, ne_eq] at q z ⊢ <;> first | exact z.mp q | exact fun k => q (z.mpr k) | omega
theorem gLIfNe (X : Stand p l e R s m args below meth c T locs cells slots) (hx : p.tables.exec = Jvm.exec) {o : Int} {x y : Int64} {pn : Nat} (hd : decode c.code pc = .ok (.ifCond .ne o, 3)) (ho : 0 ≤ (pc : Int) + o) (hp : ((pc : Int) + o).toNat = pc') (hn : pc + 3 = pn) (kY : ¬ x = y → Goes p e below F T (mkF m pc' ls st)) (kN : x = y → Goes p e below F T (mkF m pn ls st)) : Goes p e below F T (mkF m pc ls (.int (lcmpW x y) :: st)) := by
  have z := lw_eq x y
  refine gIf X hx hd ho hp hn (fun q => kY ?_) (fun q => kN ?_) <;> simp only [ifCond.holds, decide_eq_true_eq, decide_eq_false_iff_not, beq_iff_eq, bne_iff_ne, Int32.not_lt, Int32.not_le, Int32.lt_iff_toInt_lt, Int32.le_iff_toInt_le, Int64.lt_iff_toInt_lt, ← Int32.toInt_inj, beq_eq_false_iff_ne, bne_eq_false_iff_eq, ne_eq] at q z ⊢ <;> first | exact z.mp q | exact fun k => q (z.mpr k) | omega
theorem gLIfLt (X : Stand p l e R s m args below meth c T locs cells slots) (hx : p.tables.exec = Jvm.exec) {o : Int} {x y : Int64} {pn : Nat} (hd : decode c.code pc = .ok (.ifCond .lt o, 3)) (ho : 0 ≤ (pc : Int) + o) (hp : ((pc : Int) + o).toNat = pc') (hn : pc + 3 = pn) (kY : x.toInt < y.toInt → Goes p e below F T (mkF m pc' ls st)) (kN : y.toInt ≤ x.toInt → Goes p e below F T (mkF m pn ls st)) : Goes p e below F T (mkF m pc ls (.int (lcmpW x y) :: st)) := by
  have z := lw_lt x y
  refine gIf X hx hd ho hp hn (fun q => kY ?_) (fun q => kN ?_) <;> simp only [ifCond.holds, decide_eq_true_eq, decide_eq_false_iff_not, beq_iff_eq, bne_iff_ne, Int32.not_lt, Int32.not_le, Int32.lt_iff_toInt_lt, Int32.le_iff_toInt_le, Int64.lt_iff_toInt_lt, ← Int32.toInt_inj, beq_eq_false_iff_ne, bne_eq_false_iff_eq, ne_eq] at q z ⊢ <;> first | exact z.mp q | exact fun k => q (z.mpr k) | omega
theorem gLIfGe (X : Stand p l e R s m args below meth c T locs cells slots) (hx : p.tables.exec = Jvm.exec) {o : Int} {x y : Int64} {pn : Nat} (hd : decode c.code pc = .ok (.ifCond .ge o, 3)) (ho : 0 ≤ (pc : Int) + o) (hp : ((pc : Int) + o).toNat = pc') (hn : pc + 3 = pn) (kY : y.toInt ≤ x.toInt → Goes p e below F T (mkF m pc' ls st)) (kN : x.toInt < y.toInt → Goes p e below F T (mkF m pn ls st)) : Goes p e below F T (mkF m pc ls (.int (lcmpW x y) :: st)) := by
  have z := lw_lt x y
  refine gIf X hx hd ho hp hn (fun q => kY ?_) (fun q => kN ?_) <;> simp only [ifCond.holds, decide_eq_true_eq, decide_eq_false_iff_not, beq_iff_eq, bne_iff_ne, Int32.not_lt, Int32.not_le, Int32.lt_iff_toInt_lt, Int32.le_iff_toInt_le, Int64.lt_iff_toInt_lt, ← Int32.toInt_inj, beq_eq_false_iff_ne, bne_eq_false_iff_eq, ne_eq] at q z ⊢ <;> first | exact z.mp q | exact fun k => q (z.mpr k) | omega
theorem gLIfGt (X : Stand p l e R s m args below meth c T locs cells slots) (hx : p.tables.exec = Jvm.exec) {o : Int} {x y : Int64} {pn : Nat} (hd : decode c.code pc = .ok (.ifCond .gt o, 3)) (ho : 0 ≤ (pc : Int) + o) (hp : ((pc : Int) + o).toNat = pc') (hn : pc + 3 = pn) (kY : y.toInt < x.toInt → Goes p e below F T (mkF m pc' ls st)) (kN : x.toInt ≤ y.toInt → Goes p e below F T (mkF m pn ls st)) : Goes p e below F T (mkF m pc ls (.int (lcmpW x y) :: st)) := by
  have z := lw_gt x y
  refine gIf X hx hd ho hp hn (fun q => kY ?_) (fun q => kN ?_) <;> simp only [ifCond.holds, decide_eq_true_eq, decide_eq_false_iff_not, beq_iff_eq, bne_iff_ne, Int32.not_lt, Int32.not_le, Int32.lt_iff_toInt_lt, Int32.le_iff_toInt_le, Int64.lt_iff_toInt_lt, ← Int32.toInt_inj, beq_eq_false_iff_ne, bne_eq_false_iff_eq, ne_eq] at q z ⊢ <;> first | exact z.mp q | exact fun k => q (z.mpr k) | omega
theorem gLIfLe (X : Stand p l e R s m args below meth c T locs cells slots) (hx : p.tables.exec = Jvm.exec) {o : Int} {x y : Int64} {pn : Nat} (hd : decode c.code pc = .ok (.ifCond .le o, 3)) (ho : 0 ≤ (pc : Int) + o) (hp : ((pc : Int) + o).toNat = pc') (hn : pc + 3 = pn) (kY : x.toInt ≤ y.toInt → Goes p e below F T (mkF m pc' ls st)) (kN : y.toInt < x.toInt → Goes p e below F T (mkF m pn ls st)) : Goes p e below F T (mkF m pc ls (.int (lcmpW x y) :: st)) := by
  have z := lw_gt x y
  refine gIf X hx hd ho hp hn (fun q => kY ?_) (fun q => kN ?_) <;> simp only [ifCond.holds, decide_eq_true_eq, decide_eq_false_iff_not, beq_iff_eq, bne_iff_ne, Int32.not_lt, Int32.not_le, Int32.lt_iff_toInt_lt, Int32.le_iff_toInt_le, Int64.lt_iff_toInt_lt, ← Int32.toInt_inj, beq_eq_false_iff_ne, bne_eq_false_iff_eq, ne_eq] at q z ⊢ <;> first | exact z.mp q | exact fun k => q (z.mpr k) | omega
theorem gNew (X : Stand p l e R s m args below meth c T locs cells slots) (hx : p.tables.exec = Jvm.exec) (hZ : Z.Warmed39 s.vm) {own C : String} {i n : Nat} (hown : s.vm.findClass own = some m.cls) (w : (Jvm.Cond.classLink own i C).before a0 Z = true) (wi : (Jvm.Cond.instantiable C n).before a0 Z = true) (wz : (Jvm.Cond.initialized C).before a0 Z = true) (eT : T.heap = h) (hd : decode c.code pc = .ok (.new i, 3)) (hp : pc + 3 = pc') (hc : cells + 1 ≤ R.cells) (hl : slots + n ≤ R.slots)
    (k : ∀ T' h' b, Stand p l e R s m args below meth c T' locs (cells + 1) (slots + n) → T'.heap = h' → b = h.size → Ext h h' → Exa Z h' b C → (∀ {O nm d : String} {ty : FieldType}, Laid Z a0 C O nm d → parseFieldDescriptor d = some ty → Fld Z h' b O nm d (defaultValue ty)) → Goes p e below F T' (mkF m pc' ls (.ref b :: st))) : Goes p e below F T (mkF m pc ls st) := by
  subst hp
  obtain ⟨T', h', X', e', E, A, D, -, st'⟩ := newO X hx hZ hown w wi wz eT (g := mkF m pc ls st) rfl hd hc hl
  exact Goes.fore st' (k T' h' _ X' e' rfl E A D)
theorem gPutF (X : Stand p l e R s m args below meth c T locs cells slots) (hx : p.tables.exec = Jvm.exec) (hZ : Z.Warmed39 s.vm) {own R0 O n d C : String} {i kk : Nat} {ty : FieldType} (hown : s.vm.findClass own = some m.cls) (w : (Jvm.Cond.fieldLink own i R0 n d).before a0 Z = true) (via : Via Z R0 O n d) (eT : T.heap = h) {a : Addr} {v old : Value} (Fa : Fld Z h a O n d old) (E : Exa Z h a C) (L : (Jvm.Cond.lays C O n d).before a0 Z = true ∨ ((Jvm.Cond.laysFinal C O n d).before a0 Z = true ∧ own = O ∧ meth.name = "<init>")) (wi : (Jvm.Cond.instantiable C kk).before a0 Z = true)
    (hty : parseFieldDescriptor d = some ty) (hn : narrow ty v = v) (hf : fits ty v = true) (hd : decode c.code pc = .ok (.putfield i, 3)) (hp : pc + 3 = pc')
    (k : ∀ T' h', Stand p l e R s m args below meth c T' (locs ++ [⟨a, RoadKit.slotOf Z O n d⟩]) cells slots → T'.heap = h' → Wr h h' a (RoadKit.slotOf Z O n d) v → Goes p e below F T' (mkF m pc' ls st)) : Goes p e below F T (mkF m pc ls (v :: .ref a :: st)) := by
  subst hp
  obtain ⟨T', h', X', e', W, st'⟩ := putF X hx hZ (host := "") hown (Or.inl w) via eT Fa E L wi hty hn hf (g := mkF m pc ls (v :: .ref a :: st)) rfl rfl hd
  exact Goes.fore st' (k T' h' X' e' W)
theorem gInitO (X : Stand p l e R s m args below meth c T locs cells slots) (hx : p.tables.exec = Jvm.exec) (hZ : Z.Warmed39 s.vm) {own : String} {i : Nat} (hown : s.vm.findClass own = some m.cls) (w1 : (Jvm.Cond.methodLink own i Lib.objectInit).before a0 Z = true) (w2 : (Jvm.Cond.instanceMethod Lib.objectInit).before a0 Z = true) (w3 : (Jvm.Cond.code Lib.objectInit ⟨#[0xb1]⟩ 1 none).before a0 Z = true) (eT : T.heap = h) (hml : ls.size = c.maxLocals) {a : Addr} (hd : decode c.code pc = .ok (.invokespecial i, 3)) (hp : pc + 3 = pc') (hf : 1 ≤ R.frames) {W : Nat} (hW : (st.map fun v => v.category).sum ≤ W) (hl : W + 12 ≤ R.locals)
    (k : ∀ T', Stand p l e R s m args below meth c T' locs cells slots → T'.heap = h → Goes p e below F T' (mkF m pc' ls st)) : Goes p e below F T (mkF m pc ls (.ref a :: st)) := by
  subst hp
  obtain ⟨T', X', e', st'⟩ := initO X hx hZ hown w1 w2 w3 eT (g := mkF m pc ls (.ref a :: st)) rfl hml rfl hd hf (W := W) (by show 2 * 0 + _ ≤ _; omega) hl
  exact Goes.fore st' (k T' X' e')
theorem gCallI (X : Stand p l e R s m args below meth c T locs cells slots) (hx : p.tables.exec = Jvm.exec) (hZ : Z.Warmed39 s.vm) {y : MethodName} {bytes : ByteArray} {maxL : Nat} {rm : Room} {own : String} {i : Nat} {Qc : Option Value → Heap → List Loc → Prop} {a : Addr} (hy1 : y.name = "<init>") (hown : s.vm.findClass own = some m.cls) (eT : T.heap = h) (hml : ls.size = c.maxLocals)
    (w1 : (Jvm.Cond.methodLink own i y).before a0 Z = true) (w2 : (Jvm.Cond.instanceMethod y).before a0 Z = true) (w3 : (Jvm.Cond.initialized y.cls).before a0 Z = true) (w4 : (Jvm.Cond.code y bytes maxL none).before a0 Z = true) (hy : y.cls ≠ "java/lang/invoke/MethodHandle" ∧ y.cls ≠ "java/lang/invoke/VarHandle")
    {argsL : List Value} {stk : List Value} (hC : Ctr l Z y bytes maxL none [] rm (.ref a :: argsL).toArray h Qc) (hlen : ∀ sig, parseMethodDescriptor y.desc = some sig → argsL.length = sig.parameters.length) (hd : decode c.code pc = .ok (.invokespecial i, 3)) (hp : pc + 3 = pc') (hst : stk = argsL.reverse ++ .ref a :: st)
    (hf : rm.frames + 1 ≤ R.frames) {W : Nat} (hW : (st.map fun v => v.category).sum ≤ W) (hlo : W + (maxL + 11) + rm.locals ≤ R.locals) (hce : cells + rm.cells ≤ R.cells) (hsl : slots + rm.slots ≤ R.slots)
    (k : ∀ T' v L, Stand p l e R s m args below meth c T' (locs ++ L) (cells + rm.cells) (slots + rm.slots) → Qc v T'.heap L → Goes p e below F T' (mkF m pc' ls (v.toList ++ st))) : Goes p e below F T (mkF m pc ls stk) := by
  subst hp hst
  obtain ⟨v, _, ⟨T', L', k', n'⟩, -, X', ⟨Lc, hQ, l1, y1, z1⟩, st'⟩ := X.specialBack hx (y := y) hy1 hown (mvT hZ w1) (mvT hZ w2) (mvT hZ w4) hy (backOf (W := W) hC hZ w4 w3 hf hlo) (g := mkF m pc ls (argsL.reverse ++ .ref a :: st)) rfl hml (Steps.refl _) (a := a) (argsL := argsL) (rest := st) hlen rfl (by show 2 * 0 + _ ≤ _; omega) hd (fun _ _ => ⟨rfl, eT, hce, hsl⟩)
  dsimp only [Pt.U, Pt.locs, Pt.cells, Pt.slots] at X' l1 y1 z1 st' hQ
  subst l1 y1 z1
  exact Goes.tr st' (k T' v Lc X' hQ)
end OwnLayer
/-- a boolean as the machine holds it -/
def b2i (b : Bool) : Int32 := if b then 1 else 0
theorem b2_t {P : Prop} [Decidable P] (h : P) : b2i (decide P) = 1 := by simp [b2i, h]
theorem b2_f {P : Prop} [Decidable P] (h : ¬ P) : b2i (decide P) = 0 := by simp [b2i, h]
theorem b2_0 {b : Bool} : b2i b = 0 ↔ b = false := by cases b <;> simp [b2i]
theorem b2_n0 {b : Bool} : ¬ b2i b = 0 ↔ b = true := by cases b <;> simp [b2i]
theorem b2_inj {a b : Bool} : b2i a = b2i b ↔ a = b := by cases a <;> cases b <;> simp [b2i]
theorem b2_nar {b : Bool} : nar .boolean (b2i b) = b2i b := by cases b <;> rfl
theorem just_t {h0 h : Heap} {P : Prop} [Decidable P] (q : P) (e : h = h0) : Just h0 (.int (b2i (decide P))) (some (.int 1)) h [] := ⟨by rw [b2_t q], e, rfl⟩
theorem just_f {h0 h : Heap} {P : Prop} [Decidable P] (q : ¬ P) (e : h = h0) : Just h0 (.int (b2i (decide P))) (some (.int 0)) h [] := ⟨by rw [b2_f q], e, rfl⟩
/-- the law returns 1; what it wrote is new -/
def Law1 (h0 : Heap) (v : Option Value) (h : Heap) (L : List Loc) : Prop := v = some (.int 1) ∧ Fr h0.size L
section OwnArrays
variable {p : Program} {l : Launch} {e : Env} {R : Room} {s : State} {m : MethodId} {args : Array Value} {below : List Frame} {meth : Method} {c : Code} {T : State} {locs : List Loc} {cells slots : Nat}
variable {F : State → Outcome → Prop} {pc pc' : Nat} {ls : Array Slot} {st : List Value} {Z : State} {a0 : Array Value} {h : Heap} {a : Addr} {ck : ClassId} {n j : Int32} {vs : List Value} {dv : Value}
theorem gIaload (X : Stand p l e R s m args below meth c T locs cells slots) (hx : p.tables.exec = Jvm.exec) (hZ : Z.Warmed39 s.vm) (eT : T.heap = h) {v : Value} (A : Arv Z h a ck .int n vs dv) (h0 : ¬ j < 0) (h1 : j < n) (hv : vs.getD j.toNatClampNeg dv = v) (hd : decode c.code pc = .ok (.iaload, 1)) (hp : pc + 1 = pc') (k : Goes p e below F T (mkF m pc' ls (v :: st))) : Goes p e below F T (mkF m pc ls (.int j :: .ref a :: st)) := by
  subst hp
  obtain ⟨cl, Ar, q, S, N, H, _⟩ := A
  have hin := inb_of S ⟨h0, h1⟩
  exact Goes.fore (fun t q => X.iaload hx (j := j) (v := v) (by rw [eT]; exact Ar.1) (State.isArrayOf_alike hZ.alike Ar.2.1) Ar.2.2 hin (Has.at H hin hv) (g := mkF m pc ls (.int j :: .ref a :: st)) rfl rfl hd t q) k
theorem gCaload (X : Stand p l e R s m args below meth c T locs cells slots) (hx : p.tables.exec = Jvm.exec) (hZ : Z.Warmed39 s.vm) (eT : T.heap = h) {v : Value} (A : Arv Z h a ck .char n vs dv) (h0 : ¬ j < 0) (h1 : j < n) (hv : vs.getD j.toNatClampNeg dv = v) (hd : decode c.code pc = .ok (.caload, 1)) (hp : pc + 1 = pc') (k : Goes p e below F T (mkF m pc' ls (v :: st))) : Goes p e below F T (mkF m pc ls (.int j :: .ref a :: st)) := by
  subst hp
  obtain ⟨cl, Ar, q, S, N, H, _⟩ := A
  have hin := inb_of S ⟨h0, h1⟩
  exact Goes.fore (fun t q => X.caload hx (j := j) (v := v) (by rw [eT]; exact Ar.1) (State.isArrayOf_alike hZ.alike Ar.2.1) Ar.2.2 hin (Has.at H hin hv) (g := mkF m pc ls (.int j :: .ref a :: st)) rfl rfl hd t q) k
theorem gLaload (X : Stand p l e R s m args below meth c T locs cells slots) (hx : p.tables.exec = Jvm.exec) (hZ : Z.Warmed39 s.vm) (eT : T.heap = h) {v : Value} (A : Arv Z h a ck .long n vs dv) (h0 : ¬ j < 0) (h1 : j < n) (hv : vs.getD j.toNatClampNeg dv = v) (hd : decode c.code pc = .ok (.laload, 1)) (hp : pc + 1 = pc') (k : Goes p e below F T (mkF m pc' ls (v :: st))) : Goes p e below F T (mkF m pc ls (.int j :: .ref a :: st)) := by
  subst hp
  obtain ⟨cl, Ar, q, S, N, H, _⟩ := A
  have hin := inb_of S ⟨h0, h1⟩
  exact Goes.fore (fun t q => X.laload hx (j := j) (v := v) (by rw [eT]; exact Ar.1) (State.isArrayOf_alike hZ.alike Ar.2.1) Ar.2.2 hin (Has.at H hin hv) (g := mkF m pc ls (.int j :: .ref a :: st)) rfl rfl hd t q) k
theorem gBaload (X : Stand p l e R s m args below meth c T locs cells slots) (hx : p.tables.exec = Jvm.exec) (hZ : Z.Warmed39 s.vm) (eT : T.heap = h) {v : Value} (A : Arv Z h a ck .byte n vs dv) (h0 : ¬ j < 0) (h1 : j < n) (hv : vs.getD j.toNatClampNeg dv = v) (hd : decode c.code pc = .ok (.baload, 1)) (hp : pc + 1 = pc') (k : Goes p e below F T (mkF m pc' ls (v :: st))) : Goes p e below F T (mkF m pc ls (.int j :: .ref a :: st)) := by
  subst hp
  obtain ⟨cl, Ar, q, S, N, H, _⟩ := A
  have hin := inb_of S ⟨h0, h1⟩
  exact Goes.fore (fun t q => X.baloadBytes hx (j := j) (v := v) (by rw [eT]; exact Ar.1) (State.isArrayOf_alike hZ.alike Ar.2.1) Ar.2.2 hin (Has.at H hin hv) (g := mkF m pc ls (.int j :: .ref a :: st)) rfl rfl hd t q) k
theorem gAaload (X : Stand p l e R s m args below meth c T locs cells slots) (hx : p.tables.exec = Jvm.exec) (hZ : Z.Warmed39 s.vm) (eT : T.heap = h) {v : Value} {ty : FieldType} (hty : ty.isReference = true) (A : Arv Z h a ck ty n vs dv) (h0 : ¬ j < 0) (h1 : j < n) (hv : vs.getD j.toNatClampNeg dv = v) (hd : decode c.code pc = .ok (.aaload, 1)) (hp : pc + 1 = pc') (k : Goes p e below F T (mkF m pc' ls (v :: st))) : Goes p e below F T (mkF m pc ls (.int j :: .ref a :: st)) := by
  subst hp
  obtain ⟨cl, Ar, q, S, N, H, _⟩ := A
  have hin := inb_of S ⟨h0, h1⟩
  exact Goes.fore (fun t q => X.aaload hx (j := j) (v := v) (by rw [eT]; exact Ar.1) (State.isArrayOf_alike hZ.alike Ar.2.1) hty Ar.2.2 hin (Has.at H hin hv) (g := mkF m pc ls (.int j :: .ref a :: st)) rfl rfl hd t q) k
theorem gArrLen (X : Stand p l e R s m args below meth c T locs cells slots) (hx : p.tables.exec = Jvm.exec) (hZ : Z.Warmed39 s.vm) (eT : T.heap = h) {ty : FieldType} (A : Arv Z h a ck ty n vs dv) (hd : decode c.code pc = .ok (.arraylength, 1)) (hp : pc + 1 = pc') (k : Goes p e below F T (mkF m pc' ls (.int n :: st))) : Goes p e below F T (mkF m pc ls (.ref a :: st)) := by
  subst hp
  obtain ⟨cl, Ar, q, S, N, H, _⟩ := A
  refine Goes.fore (fun t q => X.arraylength hx (by rw [eT]; exact Ar.1) (State.isArrayOf_alike hZ.alike Ar.2.1) (g := mkF m pc ls (.ref a :: st)) rfl rfl hd t q) ?_
  rw [len_of S N]; exact k
theorem gIastore (X : Stand p l e R s m args below meth c T locs cells slots) (hx : p.tables.exec = Jvm.exec) (hZ : Z.Warmed39 s.vm) (eT : T.heap = h) {x : Int32} (A : Arv Z h a ck .int n vs dv) (h0 : ¬ j < 0) (h1 : j < n) (i : Nat) (hj : j.toNatClampNeg = i) (hi : i < vs.length) (hd : decode c.code pc = .ok (.iastore, 1)) (hp : pc + 1 = pc')
    (k : ∀ T' h', Stand p l e R s m args below meth c T' (locs ++ [⟨a, j.toNatClampNeg⟩]) cells slots → T'.heap = h' → Wr h h' a j.toNatClampNeg (.int x) → Arv Z h' a ck .int n (vs.set i (.int x)) dv → Goes p e below F T' (mkF m pc' ls st)) : Goes p e below F T (mkF m pc ls (.int x :: .int j :: .ref a :: st)) := by
  subst hp
  obtain ⟨cl, Ar, q, S, N, H, Gt⟩ := A
  obtain ⟨T', h', X', e', W, st'⟩ := stI X hx hZ eT Ar (j := j) (inb_of S ⟨h0, h1⟩) (g := mkF m pc ls (.int x :: .int j :: .ref a :: st)) rfl rfl hd
  exact Goes.fore st' (k T' h' X' e' W (Arv.set Ar q S N H Gt rfl W i hj hi))
theorem gCastore (X : Stand p l e R s m args below meth c T locs cells slots) (hx : p.tables.exec = Jvm.exec) (hZ : Z.Warmed39 s.vm) (eT : T.heap = h) {x : Int32} (A : Arv Z h a ck .char n vs dv) (h0 : ¬ j < 0) (h1 : j < n) (i : Nat) (hj : j.toNatClampNeg = i) (hi : i < vs.length) (hd : decode c.code pc = .ok (.castore, 1)) (hp : pc + 1 = pc')
    (k : ∀ T' h', Stand p l e R s m args below meth c T' (locs ++ [⟨a, j.toNatClampNeg⟩]) cells slots → T'.heap = h' → Wr h h' a j.toNatClampNeg (.int (nar .char x)) → Arv Z h' a ck .char n (vs.set i (.int (nar .char x))) dv → Goes p e below F T' (mkF m pc' ls st)) : Goes p e below F T (mkF m pc ls (.int x :: .int j :: .ref a :: st)) := by
  subst hp
  obtain ⟨cl, Ar, q, S, N, H, Gt⟩ := A
  obtain ⟨T', h', X', e', W, st'⟩ := stC X hx hZ eT Ar (j := j) (inb_of S ⟨h0, h1⟩) (g := mkF m pc ls (.int x :: .int j :: .ref a :: st)) rfl rfl hd
  exact Goes.fore st' (k T' h' X' e' W (Arv.set Ar q S N H Gt (fits_nar_char _) W i hj hi))
theorem gBastore (X : Stand p l e R s m args below meth c T locs cells slots) (hx : p.tables.exec = Jvm.exec) (hZ : Z.Warmed39 s.vm) (eT : T.heap = h) {x : Int32} (A : Arv Z h a ck .byte n vs dv) (h0 : ¬ j < 0) (h1 : j < n) (i : Nat) (hj : j.toNatClampNeg = i) (hi : i < vs.length) (hd : decode c.code pc = .ok (.bastore, 1)) (hp : pc + 1 = pc')
    (k : ∀ T' h', Stand p l e R s m args below meth c T' (locs ++ [⟨a, j.toNatClampNeg⟩]) cells slots → T'.heap = h' → Wr h h' a j.toNatClampNeg (.int (nar .byte x)) → Arv Z h' a ck .byte n (vs.set i (.int (nar .byte x))) dv → Goes p e below F T' (mkF m pc' ls st)) : Goes p e below F T (mkF m pc ls (.int x :: .int j :: .ref a :: st)) := by
  subst hp
  obtain ⟨cl, Ar, q, S, N, H, Gt⟩ := A
  obtain ⟨T', h', X', e', W, st'⟩ := stB X hx hZ eT Ar (j := j) (inb_of S ⟨h0, h1⟩) (g := mkF m pc ls (.int x :: .int j :: .ref a :: st)) rfl rfl hd
  exact Goes.fore st' (k T' h' X' e' W (Arv.set Ar q S N H Gt (fits_nar_byte _) W i hj hi))
theorem gLastore (X : Stand p l e R s m args below meth c T locs cells slots) (hx : p.tables.exec = Jvm.exec) (hZ : Z.Warmed39 s.vm) (eT : T.heap = h) {x : Int64} (A : Arv Z h a ck .long n vs dv) (h0 : ¬ j < 0) (h1 : j < n) (i : Nat) (hj : j.toNatClampNeg = i) (hi : i < vs.length) (hd : decode c.code pc = .ok (.lastore, 1)) (hp : pc + 1 = pc')
    (k : ∀ T' h', Stand p l e R s m args below meth c T' (locs ++ [⟨a, j.toNatClampNeg⟩]) cells slots → T'.heap = h' → Wr h h' a j.toNatClampNeg (.long x) → Arv Z h' a ck .long n (vs.set i (.long x)) dv → Goes p e below F T' (mkF m pc' ls st)) : Goes p e below F T (mkF m pc ls (.long x :: .int j :: .ref a :: st)) := by
  subst hp
  obtain ⟨cl, Ar, q, S, N, H, Gt⟩ := A
  obtain ⟨T', h', X', e', W, st'⟩ := stJ X hx hZ eT Ar (j := j) (inb_of S ⟨h0, h1⟩) (g := mkF m pc ls (.long x :: .int j :: .ref a :: st)) rfl rfl hd
  exact Goes.fore st' (k T' h' X' e' W (Arv.set Ar q S N H Gt rfl W i hj hi))
theorem gNewP (X : Stand p l e R s m args below meth c T locs cells slots) (hx : p.tables.exec = Jvm.exec) (hZ : Z.Warmed39 s.vm) {aty : ArrayType} (w : (Jvm.Cond.arrayClass (newarray.typeOf aty)).before a0 Z = true) (eT : T.heap = h) (hd : decode c.code pc = .ok (.newarray aty, 2)) (hn : ¬ n < 0) {cap : Nat} (hcap : n.toNatClampNeg ≤ cap) (hb : cap * 8 ≤ 536870912) (hc : cells + 1 ≤ R.cells) (hl : slots + cap ≤ R.slots) (N : Nat) (hp : pc + 2 = pc')
    (k : ∀ T' h' b cA, Stand p l e R s m args below meth c T' locs (cells + 1) (slots + cap) → T'.heap = h' → b = h.size → Ext h h' → Arv Z h' b cA (newarray.typeOf aty) n (List.replicate N (defaultValue (newarray.typeOf aty))) (defaultValue (newarray.typeOf aty)) → Goes p e below F T' (mkF m pc' ls (.ref b :: st))) : Goes p e below F T (mkF m pc ls (.int n :: st)) := by
  subst hp
  obtain ⟨T', h', cA, X', e', E, A, st'⟩ := newP X hx hZ w eT (g := mkF m pc ls (.int n :: st)) rfl hd rfl hn hcap hb hc hl
  exact Goes.fore st' (k T' h' _ cA X' e' rfl E ((Arv.new A hn).pad (pad_rep [] _ N)))
theorem gCast (X : Stand p l e R s m args below meth c T locs cells slots) (hx : p.tables.exec = Jvm.exec) (hZ : Z.Warmed39 s.vm) {own K : String} {i : Nat} (hown : s.vm.findClass own = some m.cls) (w : (Jvm.Cond.classLink own i K).before a0 Z = true) (eT : T.heap = h) (I : Ins Z h a K true) (hd : decode c.code pc = .ok (.checkcast i, 3)) (hp : pc + 3 = pc')
    (k : ∀ T', Stand p l e R s m args below meth c T' locs cells slots → T'.heap = h → Goes p e below F T' (mkF m pc' ls (.ref a :: st))) : Goes p e below F T (mkF m pc ls (.ref a :: st)) := by
  subst hp
  obtain ⟨T', X', e', st'⟩ := castY X hx hZ hown w eT I (g := mkF m pc ls (.ref a :: st)) rfl rfl hd
  exact Goes.fore st' (k T' X' e')
theorem gClone (X : Stand p l e R s m args below meth c T locs cells slots) (hx : p.tables.exec = Jvm.exec) (hZ : Z.Warmed39 s.vm) {own ad : String} {i : Nat} (hown : s.vm.findClass own = some m.cls) (w1 : (Jvm.Cond.methodLink own i ⟨ad, "clone", "()Ljava/lang/Object;"⟩).before a0 Z = true) (w2 : (Jvm.Cond.sameMethod ad "java/lang/Object" "clone" "()Ljava/lang/Object;").before a0 Z = true) (w3 : (Jvm.Cond.native ⟨"java/lang/Object", "clone", "()Ljava/lang/Object;"⟩).before a0 Z = true)
    (w4 : (Jvm.Cond.instanceMethod ⟨"java/lang/Object", "clone", "()Ljava/lang/Object;"⟩).before a0 Z = true) (w5 : (Jvm.Cond.selects ad ⟨ad, "clone", "()Ljava/lang/Object;"⟩ ⟨"java/lang/Object", "clone", "()Ljava/lang/Object;"⟩).before a0 Z = true) (w6 : (Jvm.Cond.castable ad "java/lang/Cloneable").before a0 Z = true) {ty : FieldType}
    (eT : T.heap = h) (A : Arv Z h a ck ty n vs dv) (E : Exa Z h a ad) (hml : ls.size = c.maxLocals) (hd : decode c.code pc = .ok (.invokevirtual i, 3)) (hf : 1 ≤ R.frames) {W cap : Nat} (hW : (st.map fun v => v.category).sum ≤ W) (hlo : W + 14 ≤ R.locals) (hcap : n.toNatClampNeg ≤ cap) (hc : cells + 1 ≤ R.cells) (hsl : slots + cap ≤ R.slots) (hp : pc + 3 = pc')
    (k : ∀ T' h' b, Stand p l e R s m args below meth c T' locs (cells + 1) (slots + cap) → T'.heap = h' → b = h.size → Ext h h' → Arv Z h' b ck ty n vs dv → Exa Z h' b ad → Goes p e below F T' (mkF m pc' ls (.ref b :: st))) : Goes p e below F T (mkF m pc ls (.ref a :: st)) := by
  subst hp
  obtain ⟨T', h', X', e', E', A', Ex, st'⟩ := cloneH X hx hZ hown w1 w2 w3 w4 w5 w6 eT A.arh E (g := mkF m pc ls (.ref a :: st)) rfl hml rfl hd hf (W := W) (cap := cap) (by show 2 * 0 + _ ≤ _; omega) hlo hcap hc hsl
  exact Goes.fore st' (k T' h' _ X' e' rfl E' A' Ex)
theorem gArrCopy (X : Stand p l e R s m args below meth c T locs cells slots) (hx : p.tables.exec = Jvm.exec) (hZ : Z.Warmed39 s.vm) {own : String} {i : Nat} (hown : s.vm.findClass own = some m.cls) (w1 : (Jvm.Cond.methodLink own i Jvm.Stand.acN).before a0 Z = true) (w2 : (Jvm.Cond.native Jvm.Stand.acN).before a0 Z = true) (w3 : (Jvm.Cond.static Jvm.Stand.acN).before a0 Z = true) (w4 : (Jvm.Cond.initialized "java/lang/System").before a0 Z = true) (eT : T.heap = h)
    {b : Addr} {cb : ClassId} {ty : FieldType} {n' sp dp nn : Int32} {vd : List Value} {dd : Value} (A : Arv Z h a ck ty n vs dv) (B : Arv Z h b cb ty n' vd dd) (hty : refKind ty = false) (h1 : ¬ sp < 0) (h2 : ¬ dp < 0) (h3 : ¬ nn < 0) (h4 : sp.toNatClampNeg + nn.toNatClampNeg ≤ n.toNatClampNeg) (h5 : dp.toNatClampNeg + nn.toNatClampNeg ≤ n'.toNatClampNeg) (hl : dp.toNatClampNeg + nn.toNatClampNeg ≤ vd.length) {n0 : Nat} (N : Fr n0 locs) (ge : n0 ≤ b)
    (hml : ls.size = c.maxLocals) (hd : decode c.code pc = .ok (.invokestatic i, 3)) (hp : pc + 3 = pc') (hf : 1 ≤ R.frames) {W : Nat} (hW : (st.map fun v => v.category).sum ≤ W) (hlo : W + (nativeFrameWords "java/lang/System" "arraycopy" 5 + 11) ≤ R.locals)
    (k : ∀ T' h' L, Stand p l e R s m args below meth c T' L cells slots → T'.heap = h' → Fr n0 L → Keep h h' [b] → Arv Z h' b cb ty n' (vd.take dp.toNatClampNeg ++ ((List.range nn.toNatClampNeg).map fun i => vs.getD (sp.toNatClampNeg + i) dv) ++ vd.drop (dp.toNatClampNeg + nn.toNatClampNeg)) dd → Goes p e below F T' (mkF m pc' ls st)) : Goes p e below F T (mkF m pc ls (.int nn :: .int dp :: .ref b :: .int sp :: .ref a :: st)) := by
  subst hp
  obtain ⟨T', h', L, X', e', N', K, A', st'⟩ := cpA X hx hZ hown w1 w2 w3 w4 eT A B (Or.inl ⟨rfl, hty⟩) h1 h2 h3 h4 h5 rfl hl N ge (g := mkF m pc ls (.int nn :: .int dp :: .ref b :: .int sp :: .ref a :: st)) rfl hml rfl hd hf (W := W) (by show 2 * 0 + _ ≤ _; omega) hlo
  exact Goes.fore st' (k T' h' L X' e' N' K A')
theorem gCallP (X : Stand p l e R s m args below meth c T locs cells slots) (hx : p.tables.exec = Jvm.exec) (hZ : Z.Warmed39 s.vm) {y : MethodName} {bytes : ByteArray} {maxL : Nat} {ret : Option FieldType} {rm : Room} {own : String} {i kk : Nat} {Qc : Option Value → Heap → List Loc → Prop} (hown : s.vm.findClass own = some m.cls) (eT : T.heap = h) (hml : ls.size = c.maxLocals) (E : Exa Z h a y.cls)
    (w1 : (Jvm.Cond.methodLink own i y).before a0 Z = true) (w6 : (Jvm.Cond.instanceMethod y).before a0 Z = true) (w5 : (Jvm.Cond.privateMethod y).before a0 Z = true) (wi : (Jvm.Cond.instantiable y.cls kk).before a0 Z = true) (w3 : (Jvm.Cond.initialized y.cls).before a0 Z = true) (w4 : (Jvm.Cond.code y bytes maxL ret).before a0 Z = true) (hy : y.cls ≠ "java/lang/invoke/MethodHandle" ∧ y.cls ≠ "java/lang/invoke/VarHandle")
    {argsL : List Value} {stk : List Value} (hC : Ctr l Z y bytes maxL ret [] rm (.ref a :: argsL).toArray h Qc) (hlen : ∀ sig, parseMethodDescriptor y.desc = some sig → argsL.length = sig.parameters.length) (hd : decode c.code pc = .ok (.invokevirtual i, 3)) (hp : pc + 3 = pc') (hst : stk = argsL.reverse ++ .ref a :: st)
    (hf : rm.frames + 1 ≤ R.frames) {W : Nat} (hW : (st.map fun v => v.category).sum ≤ W) (hlo : W + (maxL + 11) + rm.locals ≤ R.locals) (hce : cells + rm.cells ≤ R.cells) (hsl : slots + rm.slots ≤ R.slots)
    (k : ∀ T' v L, Stand p l e R s m args below meth c T' (locs ++ L) (cells + rm.cells) (slots + rm.slots) → Qc v T'.heap L → Goes p e below F T' (mkF m pc' ls (v.toList ++ st))) : Goes p e below F T (mkF m pc ls stk) := by
  subst hp hst
  obtain ⟨cq, q1, q2⟩ := E.cell
  have hpr : s.PrivateAt y := Cond.privateMethod_at (mvP hZ w5 (args := #[]))
  obtain ⟨cc, kc, hc1, hk1, -, hni, -, -⟩ := Cond.instantiable_spec (mvT (args := args) hZ wi)
  have hsel : (Jvm.Cond.selects y.cls y y).before args s = true := Jvm.Stand.selects_self_of_private hc1 hk1 (Bool.or_eq_false_iff.mp hni).1 hpr (mvT hZ w6) hy
  obtain ⟨v, _, ⟨T', L', k', n'⟩, -, X', ⟨Lc, hQ, l1, y1, z1⟩, st'⟩ := X.privateBack hx (y := y) hown (mvT hZ w1) (mvT hZ w6) hsel hpr (mvT hZ w4) hy (backOf (W := W) hC hZ w4 w3 hf hlo) (g := mkF m pc ls (argsL.reverse ++ .ref a :: st)) rfl hml (Steps.refl _) (a := a) (by rw [eT]; exact q1) q2 (argsL := argsL) (rest := st) hlen rfl (by show 2 * 0 + _ ≤ _; omega) hd (fun _ _ => ⟨rfl, eT, hce, hsl⟩)
  dsimp only [Pt.U, Pt.locs, Pt.cells, Pt.slots] at X' l1 y1 z1 st' hQ
  subst l1 y1 z1
  exact Goes.tr st' (k T' v Lc X' hQ)
end OwnArrays
section OwnWide
variable {p : Program} {l : Launch} {e : Env} {R : Room} {s : State} {m : MethodId} {args : Array Value} {below : List Frame} {meth : Method} {c : Code} {T : State} {locs : List Loc} {cells slots : Nat}
variable {F : State → Outcome → Prop} {kc ks : Nat} {Q : Option Value → Heap → List Loc → Prop} {pc pc' : Nat} {ls : Array Slot} {st : List Value} {Z : State} {a0 : Array Value} {h : Heap} {EL : List (String × Nat)} {vm0 : Vm} {k0 : Nat}
/-- it returns, Q holds, the frame is the wide one, and what is booked of the constants EL says its text still -/
def FinH (Z : State) (EL : List (String × Nat)) (s : State) (kc ks : Nat) (Q : Option Value → Heap → List Loc → Prop) (s₂ : State) (o : Outcome) : Prop := ∃ v L, o = .returned v ∧ Q v s₂.heap L ∧ CHr Z EL s.vm s.heap s₂.vm s₂.heap ∧ ReturnedEndW s o s₂ L kc ks
def CtrH (l : Launch) (Z : State) (EL : List (String × Nat)) (SL : List Addr) (y : MethodName) (bytes : ByteArray) (maxL : Nat) (ret : Option FieldType) (ws : List Jvm.Cond) (rm : Room) (as' : Array Value) (h0 : Heap) (Q : Option Value → Heap → List Loc → Prop) : Prop :=
  MetFree l y (head1 (Jvm.Cond.code y bytes maxL ret :: ws) rm) (fun a U => a = as' ∧ Z.Warmed39 U.vm ∧ U.heap = h0 ∧ CHv Z EL U.vm h0 ∧ ∀ x ∈ SL, Safe Z EL U.vm h0 x) (fun _ _ _ _ _ => True) (fun _ U o U' => ∃ v L, o = .returned v ∧ Q v U'.heap L ∧ CHr Z EL U.vm U.heap U'.vm U'.heap ∧ ReturnedEndW U o U' L rm.cells rm.slots)
theorem CtrH.of {SL : List Addr} {y : MethodName} {bytes : ByteArray} {maxL : Nat} {ret : Option FieldType} {ws : List Jvm.Cond} {rm : Room} {as' : Array Value} {h0 : Heap} (hp : plainFor y = true)
    (body : ∀ (p : Program) (e : Env) (s : State) (m : MethodId) (below : List Frame) (meth : Method) (c : Code) (s₁ : State), p.tables.exec = Jvm.exec → c.code = bytes → c.maxLocals = maxL → meth.sig.returnType = ret → (s.setVm s.vm).vm.findClass y.cls = some m.cls → meth.name = y.name → Z.Warmed39 (s.setVm s.vm).vm → meth.locks = false → Stand p l e rm (s.setVm s.vm) m as' below meth c s₁ [] 0 0 → s₁.heap = h0 → s.Since s.vm 0 → CHr Z EL s.vm s.heap s.vm h0 → (∀ x ∈ SL, Safe Z EL s.vm h0 x) → Goes p e below (FinH Z EL s rm.cells rm.slots Q) s₁ (entryFrame m as' maxL)) :
    CtrH l Z EL SL y bytes maxL ret ws rm as' h0 Q := by
  refine MetFree.of_bodySF hp hisR ?_
  intro p e s m args below meth c s₁ Bd hml hP hK
  obtain ⟨rfl, hZ, hh, hv, hs⟩ := hP
  have X : Stand p l e rm s m args below meth c s₁ [] 0 0 := Stand.of_body Bd
  refine body p e s m below meth c s₁ Bd.exec Bd.bytes hml Bd.returns (findClass_of_methodNamed Bd.named) (name_of_methodNamed Bd.named Bd.method).1 hZ Bd.notSynchronized X (by rw [← hh, Bd.state]; rfl) ((State.WarmedH.refl s).since 0) ?_ hs
  rw [hh]; exact CHr.refl hv
/-- the payer of such a contract; what is asked of the addresses SL goes on to the tables at hand -/
theorem backOfSG {SL : List Addr} {y : MethodName} {bytes : ByteArray} {maxL : Nat} {ret : Option FieldType} {rm : Room} {len W : Nat} {as' : Array Value}
    (hM : CtrH l Z EL SL y bytes maxL ret [] rm as' h Q) (hZ : Z.Warmed39 vm0) (wc : (Jvm.Cond.code y bytes maxL ret).before a0 Z = true) (wz : (Jvm.Cond.initialized y.cls).before a0 Z = true) (hf : rm.frames + 1 ≤ R.frames) (hl : W + (maxL + 11) + rm.locals ≤ R.locals) (hEL : EW Z a0 EL) (H : CHv Z EL vm0 h) (hsl : ∀ x ∈ SL, x < h.size ∧ Safe Z EL vm0 h x) :
    BackS l R p e below (s.setVm vm0) args y len W (fun A a => a = as' ∧ A.U.heap = h ∧ A.cells + rm.cells ≤ R.cells ∧ A.slots + rm.slots ≤ R.slots)
      (fun A _ v B => ∃ L, Q v B.U.heap L ∧ B.locs = A.locs ++ L ∧ B.cells = A.cells + rm.cells ∧ B.slots = A.slots + rm.slots ∧ CHr Z EL vm0 h B.U.vm B.U.heap) :=
  BackS.of_freeW (bytes := bytes) (maxL := maxL) (ret := ret) (E := fun _ first o t L k n => k = rm.cells ∧ n = rm.slots ∧ (∃ v, o = .returned v ∧ Q v t.heap L) ∧ CHr Z EL first.vm first.heap t.vm t.heap) hM hf hl
    (fun m meth c A a Y hp => have hU : Z.Warmed39 A.U.vm := wtrans (s := s.setVm vm0) hZ Y.warmed
      ⟨by show (Jvm.Cond.and _ .tt).before a A.U = true; rw [Cond.before_and, mv hU wc]; rfl, mv hU wc, mv hU wz, hp.2.2.1, hp.2.2.2⟩)
    (fun m meth c A a g mk Y hp => have q := CHv.at Y hZ hEL H
      ⟨hp.1, wtrans (s := s.setVm vm0) hZ Y.warmed, hp.2.1, q.1, fun x hx => q.safe (hsl x hx).1 (hsl x hx).2⟩) (fun _ _ _ _ _ _ _ _ _ => trivial)
    (fun _ _ _ _ ⟨v, L, h1, h2, h3, h4⟩ => ⟨L, _, _, h4, rfl, rfl, ⟨v, h1, h2⟩, h3⟩)
    (fun m meth c A a g mk v t L k n Y hp _ _ ⟨e1, e2, ⟨v', e3, e4⟩, e5⟩ => by
      cases e3; subst e1 e2
      refine ⟨L, e4, rfl, rfl, rfl, (CHv.at Y hZ hEL H).trans ?_⟩
      rw [← hp.2.1]; exact e5)
theorem gLdcO (X : Stand p l e R (s.setVm vm0) m args below meth c T locs cells slots) (hx : p.tables.exec = Jvm.exec) (hZ : Z.Warmed39 (s.setVm vm0).vm) {own text : String} {i : Nat} (hown : (s.setVm vm0).vm.findClass own = some m.cls) (w : (Jvm.Cond.stringLink own i text).before a0 Z = true) (wS : ∀ a ∈ Bundle.stringAtoms, a.before a0 Z = true) (eT : T.heap = h) (hS : s.Since vm0 k0) (hk : k0 ≤ h.size) (hEL : EW Z a0 EL) (H : CHr Z EL s.vm s.heap vm0 h)
    (hd : decode c.code pc = .ok (.ldc i, 2)) (hp : pc + 2 = pc') {n : Nat} (hn : 4 * text.toList.length ≤ n) (hbig : n ≤ 536870912) (hc : cells + 2 ≤ R.cells) (hl : slots + (n + 4) ≤ R.slots)
    (k : ∀ a T' h' k1, Stand p l e R (s.setVm T'.vm) m args below meth c T' locs (cells + 2) (slots + (n + 4)) → T'.heap = h' → Ext h h' → s.Since T'.vm k1 → k1 ≤ h'.size → Z.Warmed39 (s.setVm T'.vm).vm → (s.setVm T'.vm).vm.findClass own = some m.cls → CHr Z EL vm0 h T'.vm h' → CHr Z EL s.vm s.heap T'.vm h' → Goes p e below F T' (mkF m pc' ls (.ref a :: st))) : Goes p e below F T (mkF m pc ls st) := by
  subst hp
  obtain ⟨a, T', h', k1, X', e', E, hS', hk', hZ', ho', hC, -, st'⟩ := ldcOH X hx hZ hown w wS eT hS hk hEL H.1 (g := mkF m pc ls st) rfl hd hn hbig hc hl
  exact Goes.fore st' (k a T' h' k1 X' e' E hS' hk' hZ' ho' hC (H.trans hC))
theorem gLdcC (X : Stand p l e R (s.setVm vm0) m args below meth c T locs cells slots) (hx : p.tables.exec = Jvm.exec) (hZ : Z.Warmed39 (s.setVm vm0).vm) {own text : String} {i : Nat} (hown : (s.setVm vm0).vm.findClass own = some m.cls) (w : (Jvm.Cond.stringLink own i text).before a0 Z = true) (wS : ∀ a ∈ Bundle.stringAtoms, a.before a0 Z = true) (eT : T.heap = h) (hS : s.Since vm0 k0) (hk : k0 ≤ h.size) (hEL : EW Z a0 EL) (hmem : (own, i) ∈ EL) (H : CHr Z EL s.vm s.heap vm0 h)
    {vs : List Value} {z : Int32} (ht : (∀ c ∈ text.toList, c.toNat < 256) ∧ text.toList.map (fun c => Value.int (Jvm.Lit.byteI c.toNat.toUInt16)) = vs) (hz : ¬ z < 0) (hlz : z.toNatClampNeg = vs.length)
    (hd : decode c.code pc = .ok (.ldc i, 2)) (hp : pc + 2 = pc') {n : Nat} (hn : 4 * text.toList.length ≤ n) (hbig : n ≤ 536870912) (hc : cells + 2 ≤ R.cells) (hl : slots + (n + 4) ≤ R.slots)
    (k : ∀ a T' h' k1 b ck, Stand p l e R (s.setVm T'.vm) m args below meth c T' locs (cells + 2) (slots + (n + 4)) → T'.heap = h' → Ext h h' → s.Since T'.vm k1 → k1 ≤ h'.size → Z.Warmed39 (s.setVm T'.vm).vm → (s.setVm T'.vm).vm.findClass own = some m.cls → CHr Z EL vm0 h T'.vm h' → CHr Z EL s.vm s.heap T'.vm h' →
      Exa Z h' a "java/lang/String" → Fld Z h' a "java/lang/String" "coder" "B" (.int 0) → Fld Z h' a "java/lang/String" "value" "[B" (.ref b) → Arv Z h' b ck .byte z vs (.int 0) → (∀ x, Safe Z EL T'.vm h' x → x ≠ a ∧ x ≠ b) → Goes p e below F T' (mkF m pc' ls (.ref a :: st))) : Goes p e below F T (mkF m pc ls st) := by
  subst hp
  obtain ⟨a, T', h', k1, b, ck, X', e', E, hS', hk', hZ', ho', Ex, Fc, Fv, A, -, -, hC, -, hsafe, st'⟩ := ldcCH X hx hZ hown w wS eT hS hk hEL hmem H.1 ht hz hlz (g := mkF m pc ls st) rfl hd hn hbig hc hl
  exact Goes.fore st' (k a T' h' k1 b ck X' e' E hS' hk' hZ' ho' hC (H.trans hC) Ex Fc Fv A hsafe)
theorem gRetH0 {v : Option Value} (X : Stand p l e R (s.setVm vm0) m args below meth c T locs cells slots) (hx : p.tables.exec = Jvm.exec) (hlk : meth.locks = false) (hv : meth.sig.returnType = none → v = none) (eT : T.heap = h) (hS : s.Since vm0 k0) (hk : k0 ≤ h.size) (hZ : Z.Warmed39 (s.setVm vm0).vm) (hEL : EW Z a0 EL) (H : CHr Z EL s.vm s.heap vm0 h) (hkc : cells ≤ kc) (hks : slots ≤ ks) (hq : Q v T.heap locs) {g : JFrame}
    (k : ∀ fs, (∀ (f : JFrame) (acts : List Action), f.method = m → f.locked = none → f.entered = [] → (doReturn e (T.setTop f) acts v).1 = T.setFrames fs) → Steps p.tables e below (T.setTop g) (T.setFrames fs)) : Goes p e below (FinH Z EL s kc ks Q) T g := by
  obtain ⟨fs, hr, hrun, hended, hW⟩ := X.leaveW hS (by rw [eT]; exact hk) hv hlk
  refine ⟨_, _, k fs hr, hrun, hended, _, _, rfl, hq, ?_, hW.1, hW.2.1, hW.2.2.1, hW.2.2.2.mono hkc hks⟩
  have q := CHv.at X hZ hEL H.1
  have e2 : (T.setFrames fs).heap = h := eT
  rw [e2]
  exact H.trans q
theorem gRetHN (X : Stand p l e R (s.setVm vm0) m args below meth c T locs cells slots) (hx : p.tables.exec = Jvm.exec) (hlk : meth.locks = false) {t : FieldType} (hret : meth.sig.returnType = some t) (ht : t = .boolean ∨ t = .byte ∨ t = .char ∨ t = .short) {z w : Int32} (hd : decode c.code pc = .ok (.ireturn, 1)) (hw : nar t z = w) (eT : T.heap = h) (hS : s.Since vm0 k0) (hk : k0 ≤ h.size) (hZ : Z.Warmed39 (s.setVm vm0).vm) (hEL : EW Z a0 EL) (H : CHr Z EL s.vm s.heap vm0 h) (hkc : cells ≤ kc) (hks : slots ≤ ks) (hq : Q (some (.int w)) T.heap locs) : Goes p e below (FinH Z EL s kc ks Q) T (mkF m pc ls (.int z :: st)) := by
  subst hw
  exact gRetH0 X hx hlk (fun h => by rw [hret] at h; cases h) eT hS hk hZ hEL H hkc hks hq fun fs hr => retN X hx hret ht hd hr
theorem gRetHV (X : Stand p l e R (s.setVm vm0) m args below meth c T locs cells slots) (hx : p.tables.exec = Jvm.exec) (hlk : meth.locks = false) (hret : meth.sig.returnType = none) (hd : decode c.code pc = .ok (.return_, 1)) (eT : T.heap = h) (hS : s.Since vm0 k0) (hk : k0 ≤ h.size) (hZ : Z.Warmed39 (s.setVm vm0).vm) (hEL : EW Z a0 EL) (H : CHr Z EL s.vm s.heap vm0 h) (hkc : cells ≤ kc) (hks : slots ≤ ks) (hq : Q none T.heap locs) : Goes p e below (FinH Z EL s kc ks Q) T (mkF m pc ls []) :=
  gRetH0 X hx hlk (fun _ => rfl) eT hS hk hZ hEL H hkc hks hq fun fs hr => X.returnOut hx hret hd hr
theorem gRetHA (X : Stand p l e R (s.setVm vm0) m args below meth c T locs cells slots) (hx : p.tables.exec = Jvm.exec) (hlk : meth.locks = false) {t : FieldType} (hret : meth.sig.returnType = some t) (ht : t.isReference = true) {v : Value} (hv : v.isRef = true) (hd : decode c.code pc = .ok (.areturn, 1)) (eT : T.heap = h) (hS : s.Since vm0 k0) (hk : k0 ≤ h.size) (hZ : Z.Warmed39 (s.setVm vm0).vm) (hEL : EW Z a0 EL) (H : CHr Z EL s.vm s.heap vm0 h) (hkc : cells ≤ kc) (hks : slots ≤ ks) (hq : Q (some v) T.heap locs) : Goes p e below (FinH Z EL s kc ks Q) T (mkF m pc ls (v :: st)) :=
  gRetH0 X hx hlk (fun h => by rw [hret] at h; cases h) eT hS hk hZ hEL H hkc hks hq fun fs hr => retOut X hx hret (by cases t <;> first | rfl | cases ht) (Or.inr (Or.inr (Or.inr (Or.inr ⟨rfl, ht, hv⟩)))) hd hr
theorem gCallSH (X : Stand p l e R (s.setVm vm0) m args below meth c T locs cells slots) (hx : p.tables.exec = Jvm.exec) (hZ : Z.Warmed39 (s.setVm vm0).vm) {y : MethodName} {bytes : ByteArray} {maxL : Nat} {ret : Option FieldType} {rm : Room} {own : String} {i : Nat} {Qc : Option Value → Heap → List Loc → Prop} (hown : (s.setVm vm0).vm.findClass own = some m.cls) (eT : T.heap = h) (hml : ls.size = c.maxLocals) (hS : s.Since vm0 k0) (hk : k0 ≤ h.size) (hEL : EW Z a0 EL) (H : CHr Z EL s.vm s.heap vm0 h)
    (w1 : (Jvm.Cond.methodLink own i y).before a0 Z = true) (w2 : (Jvm.Cond.static y).before a0 Z = true) (w3 : (Jvm.Cond.initialized y.cls).before a0 Z = true) (w4 : (Jvm.Cond.code y bytes maxL ret).before a0 Z = true) (hy : y.cls ≠ "java/lang/invoke/MethodHandle" ∧ y.cls ≠ "java/lang/invoke/VarHandle")
    {SL : List Addr} (hsf : ∀ x ∈ SL, x < h.size ∧ Safe Z EL vm0 h x) {argsL : List Value} {stk : List Value} (hC : CtrH l Z EL SL y bytes maxL ret [] rm argsL.toArray h Qc) (hlen : ∀ sig, parseMethodDescriptor y.desc = some sig → argsL.length = sig.parameters.length) (hd : decode c.code pc = .ok (.invokestatic i, 3)) (hp : pc + 3 = pc') (hst : stk = argsL.reverse ++ st)
    (hf : rm.frames + 1 ≤ R.frames) {W : Nat} (hW : (st.map fun v => v.category).sum ≤ W) (hlo : W + (maxL + 11) + rm.locals ≤ R.locals) (hce : cells + rm.cells ≤ R.cells) (hsl : slots + rm.slots ≤ R.slots)
    (k : ∀ T' v L, Stand p l e R (s.setVm T'.vm) m args below meth c T' (locs ++ L) (cells + rm.cells) (slots + rm.slots) → s.Since T'.vm T'.heap.size → Z.Warmed39 (s.setVm T'.vm).vm → (s.setVm T'.vm).vm.findClass own = some m.cls → CHr Z EL vm0 h T'.vm T'.heap → CHr Z EL s.vm s.heap T'.vm T'.heap → Qc v T'.heap L → Goes p e below F T' (mkF m pc' ls (v.toList ++ st))) : Goes p e below F T (mkF m pc ls stk) := by
  subst hp hst
  obtain ⟨v, vm1, ⟨T', L', k', n'⟩, -, X', hS', hg', ⟨Lc, hQ, l1, y1, z1, hC2⟩, st'⟩ := callSS X hx (y := y) hown (mvT (s := s.setVm vm0) hZ w1) (mvT (s := s.setVm vm0) hZ w2) (mvT (s := s.setVm vm0) hZ w3) (mvT (s := s.setVm vm0) hZ w4) hy (backOfSG (s := s) (W := W) hC hZ w4 w3 hf hlo hEL H.1 hsf) (g := mkF m pc ls (argsL.reverse ++ st)) rfl hml (argsL := argsL) (rest := st) hlen rfl (by show 2 * 0 + _ ≤ _; omega) hd (fun _ _ => ⟨rfl, eT, hce, hsl⟩)
  dsimp only [Pt.U, Pt.locs, Pt.cells, Pt.slots] at X' l1 y1 z1 st' hQ hS' hg' hC2
  subst l1 y1 z1
  exact Goes.tr st' (k T' v Lc X' (foldS hS (by rw [eT]; exact hk) hS' hg') (State.Warmed39.trans (t := s.setVm vm0) hZ hS'.1) (by rw [show (s.setVm T'.vm).vm = T'.vm from rfl, hS'.1.alike.findClass]; exact hown) hC2 (H.trans hC2) hQ)
theorem gCallIH (X : Stand p l e R (s.setVm vm0) m args below meth c T locs cells slots) (hx : p.tables.exec = Jvm.exec) (hZ : Z.Warmed39 (s.setVm vm0).vm) {y : MethodName} {bytes : ByteArray} {maxL : Nat} {rm : Room} {own : String} {i : Nat} {Qc : Option Value → Heap → List Loc → Prop} {a : Addr} (hy1 : y.name = "<init>") (hown : (s.setVm vm0).vm.findClass own = some m.cls) (eT : T.heap = h) (hml : ls.size = c.maxLocals) (hS : s.Since vm0 k0) (hk : k0 ≤ h.size) (hEL : EW Z a0 EL) (H : CHr Z EL s.vm s.heap vm0 h)
    (w1 : (Jvm.Cond.methodLink own i y).before a0 Z = true) (w2 : (Jvm.Cond.instanceMethod y).before a0 Z = true) (w3 : (Jvm.Cond.initialized y.cls).before a0 Z = true) (w4 : (Jvm.Cond.code y bytes maxL none).before a0 Z = true) (hy : y.cls ≠ "java/lang/invoke/MethodHandle" ∧ y.cls ≠ "java/lang/invoke/VarHandle")
    {SL : List Addr} (hsf : ∀ x ∈ SL, x < h.size ∧ Safe Z EL vm0 h x) {argsL : List Value} {stk : List Value} (hC : CtrH l Z EL SL y bytes maxL none [] rm (.ref a :: argsL).toArray h Qc) (hlen : ∀ sig, parseMethodDescriptor y.desc = some sig → argsL.length = sig.parameters.length) (hd : decode c.code pc = .ok (.invokespecial i, 3)) (hp : pc + 3 = pc') (hst : stk = argsL.reverse ++ .ref a :: st)
    (hf : rm.frames + 1 ≤ R.frames) {W : Nat} (hW : (st.map fun v => v.category).sum ≤ W) (hlo : W + (maxL + 11) + rm.locals ≤ R.locals) (hce : cells + rm.cells ≤ R.cells) (hsl : slots + rm.slots ≤ R.slots)
    (k : ∀ T' v L, Stand p l e R (s.setVm T'.vm) m args below meth c T' (locs ++ L) (cells + rm.cells) (slots + rm.slots) → s.Since T'.vm T'.heap.size → Z.Warmed39 (s.setVm T'.vm).vm → (s.setVm T'.vm).vm.findClass own = some m.cls → CHr Z EL vm0 h T'.vm T'.heap → CHr Z EL s.vm s.heap T'.vm T'.heap → Qc v T'.heap L → Goes p e below F T' (mkF m pc' ls (v.toList ++ st))) : Goes p e below F T (mkF m pc ls stk) := by
  subst hp hst
  obtain ⟨v, vm1, ⟨T', L', k', n'⟩, -, X', hS', hg', ⟨Lc, hQ, l1, y1, z1, hC2⟩, st'⟩ := X.specialBackS hx (y := y) hy1 hown (mvT (s := s.setVm vm0) hZ w1) (mvT (s := s.setVm vm0) hZ w2) (mvT (s := s.setVm vm0) hZ w4) hy (backOfSG (s := s) (W := W) hC hZ w4 w3 hf hlo hEL H.1 hsf) (g := mkF m pc ls (argsL.reverse ++ .ref a :: st)) rfl hml (Steps.refl _) (a := a) (argsL := argsL) (rest := st) hlen rfl (by show 2 * 0 + _ ≤ _; omega) hd (fun _ _ => ⟨rfl, eT, hce, hsl⟩)
  dsimp only [Pt.U, Pt.locs, Pt.cells, Pt.slots] at X' l1 y1 z1 st' hQ hS' hg' hC2
  subst l1 y1 z1
  exact Goes.tr st' (k T' v Lc X' (foldS hS (by rw [eT]; exact hk) hS' hg') (State.Warmed39.trans (t := s.setVm vm0) hZ hS'.1) (by rw [show (s.setVm T'.vm).vm = T'.vm from rfl, hS'.1.alike.findClass]; exact hown) hC2 (H.trans hC2) hQ)
theorem sl0 : ∀ x ∈ ([] : List Addr), x < h.size ∧ Safe Z EL vm0 h x := fun _ q => nomatch q
theorem sl1 {x : Addr} (q : x < h.size) (r : Safe Z EL vm0 h x) : ∀ y ∈ [x], y < h.size ∧ Safe Z EL vm0 h y := fun y z => by cases List.mem_singleton.mp z; exact ⟨q, r⟩
end OwnWide
theorem own_i2c (x : Int32) : x.toUInt32.toUInt16.toUInt32.toInt32 = x &&& 65535 := by
  apply Int32.toBitVec_inj.mp
  apply BitVec.eq_of_toNat_eq
  simp [BitVec.toNat_and]
  rw [show (65535 : Nat) = 2 ^ 16 - 1 from rfl, Nat.and_two_pow_sub_one_eq_mod]
theorem own_mask (x : Int32) : (x &&& 65535).toInt = x.toInt % 65536 := Jvm.Kit.i32_mask x 65535 (k := 16) (by decide) (by decide)
/-- compact strings are on -/
def Cpt (Z : State) (h : Heap) : Prop := ∃ cz : Int32, Sta Z h "java/lang/String" "COMPACT_STRINGS" "Z" (.int cz) ∧ ¬ cz.toInt = 0
theorem Cpt.ext {Z : State} {h h' : Heap} (E : Ext h h') (Fa : Cpt Z h) : Cpt Z h' := by obtain ⟨a, b, c⟩ := Fa; exact ⟨a, b.ext E, c⟩
theorem Cpt.wr {Z : State} {h h' : Heap} {a : Addr} {sl : Nat} {v : Value} (W : Wr h h' a sl v) (Fa : Cpt Z h) : Cpt Z h' := by obtain ⟨a, b, c⟩ := Fa; exact ⟨a, b.wr W, c⟩
theorem own_sta_keep {Z : State} {h h' : Heap} {C n d : String} {v : Value} {ws : List Addr} (Fa : Sta Z h C n d v) (K : Keep h h' ws) (q : ∀ x ∈ ws, ∀ cell : Cell, h[x]? = some cell → cell.vm.isStatics = false) : Sta Z h' C n d v := by
  obtain ⟨cf, i, k, f, st, cell, h1, h2, h3, h4, h5, h6, h7⟩ := Fa
  refine ⟨cf, i, k, f, st, cell, h1, h2, h3, h4, K.2.1 _ _ h5 (fun hm => ?_), h6, h7⟩
  have := q _ hm _ h5
  rw [h6] at this; cases this
theorem own_cpt_keep {Z : State} {h h' : Heap} {ws : List Addr} (Fa : Cpt Z h) (K : Keep h h' ws) (q : ∀ x ∈ ws, ∀ cell : Cell, h[x]? = some cell → cell.vm.isStatics = false) : Cpt Z h' := by
  obtain ⟨a, b, c⟩ := Fa; exact ⟨a, own_sta_keep b K q, c⟩
def Sio (Z : State) (h : Heap) : Prop := ∃ sf : Value, Sta Z h "jdk/internal/util/Preconditions" "SIOOBE_FORMATTER" "Ljava/util/function/BiFunction;" sf ∧ sf.isRef = true
theorem Sio.ext {Z : State} {h h' : Heap} (E : Ext h h') (Fa : Sio Z h) : Sio Z h' := by obtain ⟨a, b, c⟩ := Fa; exact ⟨a, b.ext E, c⟩
theorem Sio.wr {Z : State} {h h' : Heap} {a : Addr} {sl : Nat} {v : Value} (W : Wr h h' a sl v) (Fa : Sio Z h) : Sio Z h' := by obtain ⟨a, b, c⟩ := Fa; exact ⟨a, b.wr W, c⟩
theorem own_sio_keep {Z : State} {h h' : Heap} {ws : List Addr} (Fa : Sio Z h) (K : Keep h h' ws) (q : ∀ x ∈ ws, ∀ cell : Cell, h[x]? = some cell → cell.vm.isStatics = false) : Sio Z h' := by
  obtain ⟨a, b, c⟩ := Fa; exact ⟨a, own_sta_keep b K q, c⟩
theorem own_nb (x : Int32) : nar .byte x.toInt8.toInt32 = x.toInt8.toInt32 := by simp [nar]
theorem own_nc {c : Int32} (h : 0 ≤ c.toInt ∧ c.toInt ≤ 65535) : nar .char c = c := by
  show c.toUInt32.toUInt16.toUInt32.toInt32 = c
  rw [own_i2c]
  apply Int32.toInt_inj.mp
  rw [own_mask]; omega
theorem own_c8 {c : Int32} (h : 0 ≤ c.toInt ∧ c.toInt ≤ 255) : 0 ≤ c.toInt ∧ c.toInt ≤ 65535 := by omega
theorem own_mask8 (x : Int32) : (x &&& 255).toInt = x.toInt % 256 := Jvm.Kit.i32_mask x 255 (k := 8) (by decide) (by decide)
theorem own_b8 {c : Int32} : c.toInt8.toInt32.toInt = c.toInt.bmod 256 := by simp
theorem own_ch {c : Int32} (h : 0 ≤ c.toInt ∧ c.toInt ≤ 255) : (c.toInt8.toInt32 &&& 255).toUInt32.toUInt16.toUInt32.toInt32 = c := by
  rw [own_i2c]
  apply Int32.toInt_inj.mp
  rw [own_mask, own_mask8, own_b8, Int.bmod_def]; split <;> omega
theorem own_binj {a b : Int32} (ha : 0 ≤ a.toInt ∧ a.toInt ≤ 255) (hb : 0 ≤ b.toInt ∧ b.toInt ≤ 255) : a.toInt8.toInt32 = b.toInt8.toInt32 ↔ a.toInt = b.toInt := by
  constructor
  · intro q
    have := own_ch ha; rw [q, own_ch hb] at this; rw [this]
  · intro q; rw [Int32.toInt_inj.mp q]
abbrev by8 (c : Int32) : Value := .int c.toInt8.toInt32
def Known (Z : State) (h0 : Heap) (a_ARTICLE a_SECTION a_EXHIBIT : Addr) : Prop := Sta Z h0 "com/example/clausewright/clausewright/contract/UnitKind" "ARTICLE" "Lcom/example/clausewright/clausewright/contract/UnitKind;" (.ref a_ARTICLE) ∧ Sta Z h0 "com/example/clausewright/clausewright/contract/UnitKind" "SECTION" "Lcom/example/clausewright/clausewright/contract/UnitKind;" (.ref a_SECTION) ∧ Sta Z h0 "com/example/clausewright/clausewright/contract/UnitKind" "EXHIBIT" "Lcom/example/clausewright/clausewright/contract/UnitKind;" (.ref a_EXHIBIT) ∧ Exa Z h0 a_ARTICLE "com/example/clausewright/clausewright/contract/UnitKind" ∧ Exa Z h0 a_SECTION "com/example/clausewright/clausewright/contract/UnitKind" ∧ Exa Z h0 a_EXHIBIT "com/example/clausewright/clausewright/contract/UnitKind"
theorem d_method_2_0 : decode method_2_code 0 = .ok (.iload_n 0, 1) := by decide +kernel
theorem d_method_2_1 : decode method_2_code 1 = .ok (.ldc 7, 2) := by decide +kernel
theorem d_method_2_3 : decode method_2_code 3 = .ok (.iand, 1) := by decide +kernel
theorem d_method_2_4 : decode method_2_code 4 = .ok (.iconst 3, 1) := by decide +kernel
theorem d_method_2_5 : decode method_2_code 5 = .ok (.irem, 1) := by decide +kernel
theorem d_method_2_6 : decode method_2_code 6 = .ok (.istore_n 1, 1) := by decide +kernel
theorem d_method_2_7 : decode method_2_code 7 = .ok (.iload_n 1, 1) := by decide +kernel
theorem d_method_2_8 : decode method_2_code 8 = .ok (.ifCond .ne 7, 3) := by decide +kernel
theorem d_method_2_15 : decode method_2_code 15 = .ok (.iload_n 1, 1) := by decide +kernel
theorem d_method_2_16 : decode method_2_code 16 = .ok (.iconst 1, 1) := by decide +kernel
theorem d_method_2_17 : decode method_2_code 17 = .ok (.if_icmp .ne 7, 3) := by decide +kernel
theorem d_method_2_24 : decode method_2_code 24 = .ok (.getstatic 17, 3) := by decide +kernel
theorem d_method_2_27 : decode method_2_code 27 = .ok (.areturn, 1) := by decide +kernel
theorem d_method_2_20 : decode method_2_code 20 = .ok (.getstatic 14, 3) := by decide +kernel
theorem d_method_2_23 : decode method_2_code 23 = .ok (.areturn, 1) := by decide +kernel
theorem d_method_2_11 : decode method_2_code 11 = .ok (.getstatic 8, 3) := by decide +kernel
theorem d_method_2_14 : decode method_2_code 14 = .ok (.areturn, 1) := by decide +kernel
theorem pn_2 : plainName "com/example/clausewright/clausewright/contract/UnitKeyPinLaw" = true := by first | (simp [plainName, overriddenIn]; done) | decide +kernel
theorem ef_c_kindOf (m : MethodId) (p0 : Int32) : entryFrame m #[(.int p0)] 2 = mkF m 0 #[.val (.int p0), .unset] [] := by first | (simp [entryFrame, mkF, argsToLocals, Value.category]; done) | rfl
set_option maxRecDepth 65536 in
set_option maxHeartbeats 40000000 in
theorem c_kindOf (l : Launch) (Z : State) (a0 : Array Value) (hw : ∀ d ∈ tables_1, d.before a0 Z = true) (p0 : Int32) (a_ARTICLE a_SECTION a_EXHIBIT : Addr) (h0 : Heap) (hK : Known Z h0 a_ARTICLE a_SECTION a_EXHIBIT) :
    Ctr l Z (⟨"com/example/clausewright/clausewright/contract/UnitKeyPinLaw", "kindOf", "(I)Lcom/example/clausewright/clausewright/contract/UnitKind;"⟩ : MethodName) method_2_code 2 (some (.object "com/example/clausewright/clausewright/contract/UnitKind")) [] ({ frames := 0, cells := 0, slots := 0, locals := 0 } : Room) #[(.int p0)] h0 (fun v h L => ∃ k : Addr, v = some (.ref k) ∧ h = h0 ∧ L = []) := by
  refine Ctr.of (plainFor_of_name pn_2) ?_
  intro p e s m below meth c s₁ hx hby hml hret hown hnm hZ hlk X0 e0
  refine Goes.cast (ef_c_kindOf m p0) ?_
  obtain ⟨S_ARTICLE, S_SECTION, S_EXHIBIT, E_ARTICLE, E_SECTION, E_EXHIBIT⟩ := hK
  refine gLoadIN X0 hx (hb hby d_method_2_0) (pc' := 1) rfl rfl ?_
  refine gLdc X0 hx hZ hown (hw _ (List.mem_of_getElem? (i := 4) rfl)) (hb hby d_method_2_1) (pc' := 3) rfl ?_
  refine gIand X0 hx (hb hby d_method_2_3) (pc' := 4) rfl ?_
  refine gIconst X0 hx (v := (3 : Int32)) (hb hby d_method_2_4) (pc' := 5) rfl rfl ?_
  refine gIrem X0 hx (hb hby d_method_2_5) (pc' := 6) (by decide) rfl ?_
  refine gStoreIN X0 hx (hb hby d_method_2_6) (l' := #[.val (.int p0), .val (.int ((p0 &&& (2147483647 : Int32)) % (3 : Int32)))]) (pc' := 7) rfl rfl ?_
  refine gLoadIN X0 hx (hb hby d_method_2_7) (pc' := 8) rfl rfl ?_
  refine gIfNeT X0 hx (hb hby d_method_2_8) (pc' := 15) (by decide) (by decide) (pn := 11) rfl (fun (c8 : ¬ ((p0 &&& (2147483647 : Int32)) % (3 : Int32)).toInt = (0 : Int)) => ?_) (fun (c8 : ((p0 &&& (2147483647 : Int32)) % (3 : Int32)).toInt = (0 : Int)) => ?_)
  · refine gLoadIN X0 hx (hb hby d_method_2_15) (pc' := 16) rfl rfl ?_
    refine gIconst X0 hx (v := (1 : Int32)) (hb hby d_method_2_16) (pc' := 17) rfl rfl ?_
    refine gIcmpNeT X0 hx (hb hby d_method_2_17) (pc' := 24) (by decide) (by decide) (pn := 20) rfl (fun (c17 : ¬ ((p0 &&& (2147483647 : Int32)) % (3 : Int32)).toInt = (1 : Int)) => ?_) (fun (c17 : ((p0 &&& (2147483647 : Int32)) % (3 : Int32)).toInt = (1 : Int)) => ?_)
    · refine gGetS X0 hx hZ hown (hw _ (List.mem_of_getElem? (i := 111) rfl)) Via.refl e0 S_EXHIBIT (hb hby d_method_2_24) (pc' := 27) rfl (fun T1 X1 e1 => ?_)
      exact gRetA X1 hx hlk hret rfl rfl (hb hby d_method_2_27) (by decide) (by decide) (⟨_, rfl, e1, rfl⟩)
    · refine gGetS X0 hx hZ hown (hw _ (List.mem_of_getElem? (i := 95) rfl)) Via.refl e0 S_SECTION (hb hby d_method_2_20) (pc' := 23) rfl (fun T2 X2 e2 => ?_)
      exact gRetA X2 hx hlk hret rfl rfl (hb hby d_method_2_23) (by decide) (by decide) (⟨_, rfl, e2, rfl⟩)
  · refine gGetS X0 hx hZ hown (hw _ (List.mem_of_getElem? (i := 5) rfl)) Via.refl e0 S_ARTICLE (hb hby d_method_2_11) (pc' := 14) rfl (fun T3 X3 e3 => ?_)
    exact gRetA X3 hx hlk hret rfl rfl (hb hby d_method_2_14) (by decide) (by decide) (⟨_, rfl, e3, rfl⟩)
theorem d_jdk_43_method_3_0 : decode jdk_43_method_3_code 0 = .ok (.iload_n 0, 1) := by decide +kernel
theorem d_jdk_43_method_3_1 : decode jdk_43_method_3_code 1 = .ok (.sipush 255, 3) := by decide +kernel
theorem d_jdk_43_method_3_4 : decode jdk_43_method_3_code 4 = .ok (.if_icmp .gt 7, 3) := by decide +kernel
theorem d_jdk_43_method_3_7 : decode jdk_43_method_3_code 7 = .ok (.iconst 1, 1) := by decide +kernel
theorem d_jdk_43_method_3_8 : decode jdk_43_method_3_code 8 = .ok (.goto 4, 3) := by decide +kernel
theorem d_jdk_43_method_3_12 : decode jdk_43_method_3_code 12 = .ok (.ireturn, 1) := by decide +kernel
theorem pn_6 : plainName "java/lang/StringLatin1" = true := by first | (simp [plainName, overriddenIn]; done) | decide +kernel
theorem ef_c_can (m : MethodId) (p0 : Int32) : entryFrame m #[(.int p0)] 1 = mkF m 0 #[.val (.int p0)] [] := by first | (simp [entryFrame, mkF, argsToLocals, Value.category]; done) | rfl
set_option maxRecDepth 65536 in
set_option maxHeartbeats 40000000 in
theorem c_can (l : Launch) (Z : State) (a0 : Array Value) (hw : ∀ d ∈ tables_1, d.before a0 Z = true) (p0 : Int32) (h0 : Heap) (hc0 : 0 ≤ p0.toInt ∧ p0.toInt ≤ 255) :
    Ctr l Z (⟨"java/lang/StringLatin1", "canEncode", "(C)Z"⟩ : MethodName) jdk_43_method_3_code 1 (some .boolean) [] ({ frames := 0, cells := 0, slots := 0, locals := 0 } : Room) #[(.int p0)] h0 (Just h0 (.int 1)) := by
  refine Ctr.of (plainFor_of_name pn_6) ?_
  intro p e s m below meth c s₁ hx hby hml hret hown hnm hZ hlk X0 e0
  refine Goes.cast (ef_c_can m p0) ?_
  refine gLoadIN X0 hx (hb hby d_jdk_43_method_3_0) (pc' := 1) rfl rfl ?_
  refine gSipush X0 hx (v := (255 : Int32)) (hb hby d_jdk_43_method_3_1) (pc' := 4) rfl rfl ?_
  refine gIcmpGt X0 hx (hb hby d_jdk_43_method_3_4) (pc' := 11) (by decide) (by decide) (pn := 7) rfl (fun (c4 : (255 : Int) < p0.toInt) => ?_) (fun (c4 : p0.toInt ≤ (255 : Int)) => ?_)
  · exact absurd c4 (by omega)
  · refine gIconst X0 hx (v := (1 : Int32)) (hb hby d_jdk_43_method_3_7) (pc' := 8) rfl rfl ?_
    refine gGoto X0 hx (hb hby d_jdk_43_method_3_8) (pc' := 12) (by decide) (by decide) ?_
    exact gRetN X0 hx hlk hret (by simp) (hb hby d_jdk_43_method_3_12) (w := (1 : Int32)) rfl (by decide) (by decide) (⟨rfl, e0, rfl⟩)
theorem d_jdk_43_method_46_0 : decode jdk_43_method_46_code 0 = .ok (.iconst 1, 1) := by decide +kernel
theorem d_jdk_43_method_46_1 : decode jdk_43_method_46_code 1 = .ok (.newarray .byte, 2) := by decide +kernel
theorem d_jdk_43_method_46_3 : decode jdk_43_method_46_code 3 = .ok (.dup, 1) := by decide +kernel
theorem d_jdk_43_method_46_4 : decode jdk_43_method_46_code 4 = .ok (.iconst 0, 1) := by decide +kernel
theorem d_jdk_43_method_46_5 : decode jdk_43_method_46_code 5 = .ok (.iload_n 0, 1) := by decide +kernel
theorem d_jdk_43_method_46_6 : decode jdk_43_method_46_code 6 = .ok (.i2b, 1) := by decide +kernel
theorem d_jdk_43_method_46_7 : decode jdk_43_method_46_code 7 = .ok (.bastore, 1) := by decide +kernel
theorem d_jdk_43_method_46_8 : decode jdk_43_method_46_code 8 = .ok (.areturn, 1) := by decide +kernel
theorem ef_c_toB (m : MethodId) (p0 : Int32) : entryFrame m #[(.int p0)] 1 = mkF m 0 #[.val (.int p0)] [] := by first | (simp [entryFrame, mkF, argsToLocals, Value.category]; done) | rfl
set_option maxRecDepth 65536 in
set_option maxHeartbeats 40000000 in
theorem c_toB (l : Launch) (Z : State) (a0 : Array Value) (hw : ∀ d ∈ tables_1, d.before a0 Z = true) (p0 : Int32) (h0 : Heap)  :
    Ctr l Z (⟨"java/lang/StringLatin1", "toBytes", "(C)[B"⟩ : MethodName) jdk_43_method_46_code 1 (some (.array .byte)) [] ({ frames := 0, cells := 1, slots := 1, locals := 0 } : Room) #[(.int p0)] h0 (fun v h L => ∃ t : Addr, v = some (.ref t) ∧ Fr h0.size L ∧ Keep h0 h []) := by
  refine Ctr.of (plainFor_of_name pn_6) ?_
  intro p e s m below meth c s₁ hx hby hml hret hown hnm hZ hlk X0 e0
  refine Goes.cast (ef_c_toB m p0) ?_
  refine gIconst X0 hx (v := (1 : Int32)) (hb hby d_jdk_43_method_46_0) (pc' := 1) rfl rfl ?_
  refine gNewP X0 hx hZ (hw _ (List.mem_of_getElem? (i := 30) rfl)) e0 (n := (1 : Int32)) (hb hby d_jdk_43_method_46_1) (by decide) (cap := 1) (by decide) (by decide) (by decide) (by decide) 1 (pc' := 3) rfl (fun T1 h1 b1 ck1 X1 e1 g1 E1 A1 => ?_)
  have sz_b1 : h0.size ≤ b1 := Nat.le_trans (Nat.le_refl _) (Nat.le_of_eq g1.symm)
  have zs1 : h0.size ≤ h1.size := Nat.le_trans (Nat.le_refl _) E1.1
  have K1 : Keep h0 h1 [] := (Keep.refl h0 []).ext E1
  have V1 : Arv Z h1 b1 ck1 .byte (1 : Int32) [(.int (0 : Int32))] (.int (0 : Int32)) := A1
  refine gDup X1 hx (hb hby d_jdk_43_method_46_3) (pc' := 4) rfl rfl ?_
  refine gIconst X1 hx (v := (0 : Int32)) (hb hby d_jdk_43_method_46_4) (pc' := 5) rfl rfl ?_
  refine gLoadIN X1 hx (hb hby d_jdk_43_method_46_5) (pc' := 6) rfl rfl ?_
  refine gI2b X1 hx (hb hby d_jdk_43_method_46_6) (pc' := 7) rfl ?_
  refine gBastore X1 hx hZ e1 (x := (p0.toInt8.toInt32)) V1 (j := (0 : Int32)) (by decide) (by decide) 0 (by decide) (by simp) (hb hby d_jdk_43_method_46_7) (pc' := 8) rfl (fun T2 h2 X2 e2 W2 A2 => ?_)
  have zs2 : h0.size ≤ h2.size := by rw [W2.size]; exact zs1
  have N2 := Fr.snoc X2 (Fr.nil h0.size) sz_b1
  have K2 : Keep h0 h2 [] := K1.wr W2 (Or.inr sz_b1)
  have V2 : Arv Z h2 b1 _ .byte (1 : Int32) [(.int (nar .byte (p0.toInt8.toInt32)))] (.int (0 : Int32)) := A2
  exact gRetA X2 hx hlk hret rfl rfl (hb hby d_jdk_43_method_46_8) (by decide) (by decide) (⟨b1, rfl, N2, by rw [e2]; exact K2⟩)
theorem d_jdk_42_method_151_0 : decode jdk_42_method_151_code 0 = .ok (.aload_n 0, 1) := by decide +kernel
theorem d_jdk_42_method_151_1 : decode jdk_42_method_151_code 1 = .ok (.invokespecial 1, 3) := by decide +kernel
theorem d_jdk_42_method_151_4 : decode jdk_42_method_151_code 4 = .ok (.aload_n 0, 1) := by decide +kernel
theorem d_jdk_42_method_151_5 : decode jdk_42_method_151_code 5 = .ok (.aload_n 1, 1) := by decide +kernel
theorem d_jdk_42_method_151_6 : decode jdk_42_method_151_code 6 = .ok (.putfield 9, 3) := by decide +kernel
theorem d_jdk_42_method_151_9 : decode jdk_42_method_151_code 9 = .ok (.aload_n 0, 1) := by decide +kernel
theorem d_jdk_42_method_151_10 : decode jdk_42_method_151_code 10 = .ok (.iload_n 2, 1) := by decide +kernel
theorem d_jdk_42_method_151_11 : decode jdk_42_method_151_code 11 = .ok (.putfield 15, 3) := by decide +kernel
theorem d_jdk_42_method_151_14 : decode jdk_42_method_151_code 14 = .ok (.return_, 1) := by decide +kernel
theorem pn_5 : plainName "java/lang/String" = true := by first | (simp [plainName, overriddenIn]; done) | decide +kernel
theorem ef_c_sinitB (m : MethodId) (a : Addr) (t : Addr) : entryFrame m #[(.ref a), (.ref t), (.int (0 : Int32))] 3 = mkF m 0 #[.val (.ref a), .val (.ref t), .val (.int (0 : Int32))] [] := by first | (simp [entryFrame, mkF, argsToLocals, Value.category]; done) | rfl
set_option maxRecDepth 65536 in
set_option maxHeartbeats 40000000 in
theorem c_sinitB (l : Launch) (Z : State) (a0 : Array Value) (hw : ∀ d ∈ tables_1, d.before a0 Z = true) (a t : Addr) (n0 : Nat) (h0 : Heap) (ga : n0 ≤ a) (E : Exa Z h0 a "java/lang/String") (C : Fld Z h0 a "java/lang/String" "coder" "B" (.int 0)) (V : Fld Z h0 a "java/lang/String" "value" "[B" .null) :
    Ctr l Z (⟨"java/lang/String", "<init>", "([BB)V"⟩ : MethodName) jdk_42_method_151_code 3 none [] ({ frames := 1, cells := 0, slots := 0, locals := 12 } : Room) #[(.ref a), (.ref t), (.int (0 : Int32))] h0 (fun v h L => v = none ∧ Fr n0 L ∧ Keep h0 h [a] ∧ Exa Z h a "java/lang/String" ∧ Fld Z h a "java/lang/String" "coder" "B" (.int 0) ∧ Fld Z h a "java/lang/String" "value" "[B" (.ref t)) := by
  refine Ctr.of (plainFor_of_name pn_5) ?_
  intro p e s m below meth c s₁ hx hby hml hret hown hnm hZ hlk X0 e0
  refine Goes.cast (ef_c_sinitB m a t) ?_
  refine gLoadAN X0 hx (hb hby d_jdk_42_method_151_0) (pc' := 1) rfl rfl rfl ?_
  refine gInitO X0 hx hZ hown (hw _ (List.mem_of_getElem? (i := 22) rfl)) (hw _ (List.mem_of_getElem? (i := 23) rfl)) (hw _ (List.mem_of_getElem? (i := 24) rfl)) e0 (by rw [hml]; rfl) (hb hby d_jdk_42_method_151_1) (pc' := 4) rfl (by decide) (W := 0) (Nat.le_of_eq rfl) (by decide) (fun T1 X1 e1 => ?_)
  refine gLoadAN X1 hx (hb hby d_jdk_42_method_151_4) (pc' := 5) rfl rfl rfl ?_
  refine gLoadAN X1 hx (hb hby d_jdk_42_method_151_5) (pc' := 6) rfl rfl rfl ?_
  refine gPutF X1 hx hZ hown (hw _ (List.mem_of_getElem? (i := 39) rfl)) Via.refl e1 V E (Or.inr ⟨(hw _ (List.mem_of_getElem? (i := 40) rfl)), rfl, hnm⟩) (hw _ (List.mem_of_getElem? (i := 13) rfl)) (ty := (.array .byte)) (by decide) rfl rfl (hb hby d_jdk_42_method_151_6) (pc' := 9) rfl (fun T2 h2 X2 e2 W2 => ?_)
  have f2_0 := E.wr W2
  have f2_1 := C.other W2 (Or.inr (slot_ne (Or.inr (hw _ (List.mem_of_getElem? (i := 38) rfl))) (Or.inr (hw _ (List.mem_of_getElem? (i := 40) rfl))) (by decide) (t := .byte) (t' := (.array .byte)) (by decide) (by decide)))
  have f2_2 := V.same W2
  have zs2 : h0.size ≤ h2.size := by rw [W2.size]; exact (Nat.le_refl _)
  have N2 := Fr.snoc X2 (Fr.nil n0) ga
  have K2 : Keep h0 h2 [a] := (Keep.refl h0 [a]).wr W2 (Or.inl (by simp))
  refine gLoadAN X2 hx (hb hby d_jdk_42_method_151_9) (pc' := 10) rfl rfl rfl ?_
  refine gLoadIN X2 hx (hb hby d_jdk_42_method_151_10) (pc' := 11) rfl rfl ?_
  refine gPutF X2 hx hZ hown (hw _ (List.mem_of_getElem? (i := 37) rfl)) Via.refl e2 f2_1 f2_0 (Or.inr ⟨(hw _ (List.mem_of_getElem? (i := 38) rfl)), rfl, hnm⟩) (hw _ (List.mem_of_getElem? (i := 13) rfl)) (ty := .byte) (by decide) rfl rfl (hb hby d_jdk_42_method_151_11) (pc' := 14) rfl (fun T3 h3 X3 e3 W3 => ?_)
  have f3_0 := f2_0.wr W3
  have f3_1 := f2_1.same W3
  have f3_2 := f2_2.other W3 (Or.inr (slot_ne (Or.inr (hw _ (List.mem_of_getElem? (i := 40) rfl))) (Or.inr (hw _ (List.mem_of_getElem? (i := 38) rfl))) (by decide) (t := (.array .byte)) (t' := .byte) (by decide) (by decide)))
  have zs3 : h0.size ≤ h3.size := by rw [W3.size]; exact zs2
  have N3 := Fr.snoc X3 N2 ga
  have K3 : Keep h0 h3 [a] := K2.wr W3 (Or.inl (by simp))
  exact gRetV X3 hx hlk hret (hb hby d_jdk_42_method_151_14) (by decide) (by decide) (⟨rfl, N3, by rw [e3]; exact K3, by rw [e3]; exact f3_0, by rw [e3]; exact f3_1, by rw [e3]; exact f3_2⟩)
theorem d_jdk_42_method_139_0 : decode jdk_42_method_139_code 0 = .ok (.getstatic 38, 3) := by decide +kernel
theorem d_jdk_42_method_139_3 : decode jdk_42_method_139_code 3 = .ok (.ifCond .eq 23, 3) := by decide +kernel
theorem d_jdk_42_method_139_6 : decode jdk_42_method_139_code 6 = .ok (.iload_n 0, 1) := by decide +kernel
theorem d_jdk_42_method_139_7 : decode jdk_42_method_139_code 7 = .ok (.invokestatic 1015, 3) := by decide +kernel
theorem pd_5 : parseMethodDescriptor "(C)Z" = some ⟨[.char], some .boolean⟩ := by decide +kernel
theorem d_jdk_42_method_139_10 : decode jdk_42_method_139_code 10 = .ok (.ifCond .eq 16, 3) := by decide +kernel
theorem d_jdk_42_method_139_13 : decode jdk_42_method_139_code 13 = .ok (.new 10, 3) := by decide +kernel
theorem d_jdk_42_method_139_16 : decode jdk_42_method_139_code 16 = .ok (.dup, 1) := by decide +kernel
theorem d_jdk_42_method_139_17 : decode jdk_42_method_139_code 17 = .ok (.iload_n 0, 1) := by decide +kernel
theorem d_jdk_42_method_139_18 : decode jdk_42_method_139_code 18 = .ok (.invokestatic 1018, 3) := by decide +kernel
theorem pd_6 : parseMethodDescriptor "(C)[B" = some ⟨[.char], some (.array .byte)⟩ := by decide +kernel
theorem d_jdk_42_method_139_21 : decode jdk_42_method_139_code 21 = .ok (.iconst 0, 1) := by decide +kernel
theorem d_jdk_42_method_139_22 : decode jdk_42_method_139_code 22 = .ok (.invokespecial 209, 3) := by decide +kernel
theorem pd_12 : parseMethodDescriptor "([BB)V" = some ⟨[(.array .byte), .byte], none⟩ := by decide +kernel
theorem d_jdk_42_method_139_25 : decode jdk_42_method_139_code 25 = .ok (.areturn, 1) := by decide +kernel
theorem ef_c_valueOf (m : MethodId) (p0 : Int32) : entryFrame m #[(.int p0)] 1 = mkF m 0 #[.val (.int p0)] [] := by first | (simp [entryFrame, mkF, argsToLocals, Value.category]; done) | rfl
set_option maxRecDepth 65536 in
set_option maxHeartbeats 40000000 in
theorem c_valueOf (l : Launch) (Z : State) (a0 : Array Value) (hw : ∀ d ∈ tables_1, d.before a0 Z = true) (p0 : Int32) (h0 : Heap) (hCpt : Cpt Z h0) (hc0 : 0 ≤ p0.toInt ∧ p0.toInt ≤ 255) :
    Ctr l Z (⟨"java/lang/String", "valueOf", "(C)Ljava/lang/String;"⟩ : MethodName) jdk_42_method_139_code 1 (some (.object "java/lang/String")) [] ({ frames := 2, cells := 2, slots := 5, locals := 28 } : Room) #[(.int p0)] h0 (fun v h L => ∃ a : Addr, v = some (.ref a) ∧ Fr h0.size L ∧ Keep h0 h [] ∧ Exa Z h a "java/lang/String") := by
  refine Ctr.of (plainFor_of_name pn_5) ?_
  intro p e s m below meth c s₁ hx hby hml hret hown hnm hZ hlk X0 e0
  refine Goes.cast (ef_c_valueOf m p0) ?_
  obtain ⟨cz, SC, hcz⟩ := hCpt
  refine gGetS X0 hx hZ hown (hw _ (List.mem_of_getElem? (i := 25) rfl)) Via.refl e0 SC (hb hby d_jdk_42_method_139_0) (pc' := 3) rfl (fun T1 X1 e1 => ?_)
  refine gIfEqT X1 hx (hb hby d_jdk_42_method_139_3) (pc' := 26) (by decide) (by decide) (pn := 6) rfl (fun (c3 : cz.toInt = (0 : Int)) => ?_) (fun (c3 : ¬ cz.toInt = (0 : Int)) => ?_)
  · exact absurd c3 hcz
  · refine gLoadIN X1 hx (hb hby d_jdk_42_method_139_6) (pc' := 7) rfl rfl ?_
    refine gCallSJ X1 hx hZ (y := (⟨"java/lang/StringLatin1", "canEncode", "(C)Z"⟩ : MethodName)) hown e1 (by rw [hml]; rfl) (hw _ (List.mem_of_getElem? (i := 100) rfl)) (hw _ (List.mem_of_getElem? (i := 101) rfl)) (hw _ (List.mem_of_getElem? (i := 102) rfl)) (hw _ (List.mem_of_getElem? (i := 103) rfl)) (by decide) (argsL := [(.int p0)]) (st := []) (c_can l Z a0 hw p0 h0 hc0) (lenOf pd_5 rfl) (hb hby d_jdk_42_method_139_7) (pc' := 10) rfl rfl rfl rfl (by decide) (W := 0) (Nat.le_of_eq rfl) (by decide) (by decide) (by decide) ?_
    intro T2 X2 e2
    refine gIfEqT X2 hx (hb hby d_jdk_42_method_139_10) (pc' := 26) (by decide) (by decide) (pn := 13) rfl (fun (c10 : (1 : Int) = (0 : Int)) => ?_) (fun (c10 : ¬ (1 : Int) = (0 : Int)) => ?_)
    · exact absurd c10 (by decide)
    · refine gNew X2 hx hZ hown (hw _ (List.mem_of_getElem? (i := 104) rfl)) (hw _ (List.mem_of_getElem? (i := 13) rfl)) (hw _ (List.mem_of_getElem? (i := 14) rfl)) e2 (hb hby d_jdk_42_method_139_13) (pc' := 16) rfl (by decide) (by decide) (fun T3 h3 b3 X3 e3 g3 E3 A3 D3 => ?_)
      have f3_0 := SC.ext E3
      have sz_b3 : h0.size ≤ b3 := Nat.le_trans (Nat.le_refl _) (Nat.le_of_eq g3.symm)
      have zs3 : h0.size ≤ h3.size := Nat.le_trans (Nat.le_refl _) E3.1
      have K3 : Keep h0 h3 [] := (Keep.refl h0 []).ext E3
      have F3_coder : Fld Z h3 b3 "java/lang/String" "coder" "B" (.int (0 : Int32)) := D3 (Or.inr (hw _ (List.mem_of_getElem? (i := 38) rfl))) (ty := .byte) (by decide)
      have F3_value : Fld Z h3 b3 "java/lang/String" "value" "[B" .null := D3 (Or.inr (hw _ (List.mem_of_getElem? (i := 40) rfl))) (ty := (.array .byte)) (by decide)
      refine gDup X3 hx (hb hby d_jdk_42_method_139_16) (pc' := 17) rfl rfl ?_
      refine gLoadIN X3 hx (hb hby d_jdk_42_method_139_17) (pc' := 18) rfl rfl ?_
      refine gCallS X3 hx hZ (y := (⟨"java/lang/StringLatin1", "toBytes", "(C)[B"⟩ : MethodName)) hown e3 (by rw [hml]; rfl) (hw _ (List.mem_of_getElem? (i := 105) rfl)) (hw _ (List.mem_of_getElem? (i := 106) rfl)) (hw _ (List.mem_of_getElem? (i := 102) rfl)) (hw _ (List.mem_of_getElem? (i := 107) rfl)) (by decide) (argsL := [(.int p0)]) (st := [(.ref b3), (.ref b3)]) (c_toB l Z a0 hw p0 h3) (lenOf pd_6 rfl) (hb hby d_jdk_42_method_139_18) (pc' := 21) rfl rfl (by decide) (W := 2) (Nat.le_of_eq rfl) (by decide) (by decide) (by decide) ?_
      intro T4 v4 L4 X4 hQ4
      obtain ⟨t4, rfl, Nq4, Kq4⟩ := hQ4
      have N4 := Fr.app (Fr.nil h0.size) (fun y hy => Nat.le_trans zs3 (Nq4 y hy))
      have K4 : Keep h0 T4.heap [] := K3.trans Kq4 all0
      have f4_0 := own_sta_keep f3_0 Kq4 ns0
      have f4_1 := A3.keep Kq4
      have f4_2 := F3_coder.keep Kq4 nin0
      have f4_3 := F3_value.keep Kq4 nin0
      have zs4 := Nat.le_trans zs3 Kq4.1
      refine gIconst X4 hx (v := (0 : Int32)) (hb hby d_jdk_42_method_139_21) (pc' := 22) rfl rfl ?_
      refine gCallI X4 hx hZ (y := (⟨"java/lang/String", "<init>", "([BB)V"⟩ : MethodName)) rfl hown rfl (by rw [hml]; rfl) (hw _ (List.mem_of_getElem? (i := 108) rfl)) (hw _ (List.mem_of_getElem? (i := 109) rfl)) (hw _ (List.mem_of_getElem? (i := 14) rfl)) (hw _ (List.mem_of_getElem? (i := 110) rfl)) (by decide) (argsL := [(.ref t4), (.int (0 : Int32))]) (st := [(.ref b3)]) (c_sinitB l Z a0 hw b3 t4 h0.size T4.heap sz_b3 f4_1 f4_2 f4_3) (lenOf pd_12 rfl) (hb hby d_jdk_42_method_139_22) (pc' := 25) rfl rfl (by decide) (W := 1) (Nat.le_of_eq rfl) (by decide) (by decide) (by decide) ?_
      intro T5 v5 L5 X5 hQ5
      obtain ⟨rfl, Nq5, Kq5, Eq5, -, -⟩ := hQ5
      have N5 := Fr.app N4 Nq5
      have K5 : Keep h0 T5.heap [] := K4.trans Kq5 (allS (Or.inr sz_b3) all0)
      exact gRetA X5 hx hlk hret rfl rfl (hb hby d_jdk_42_method_139_25) (by decide) (by decide) (⟨b3, rfl, N5, K5, Eq5⟩)
theorem d_jdk_52_method_21_0 : decode jdk_52_method_21_code 0 = .ok (.iconst 0, 1) := by decide +kernel
theorem d_jdk_52_method_21_1 : decode jdk_52_method_21_code 1 = .ok (.istore 5, 2) := by decide +kernel
theorem d_jdk_52_method_21_3 : decode jdk_52_method_21_code 3 = .ok (.iload 5, 2) := by decide +kernel
theorem d_jdk_52_method_21_5 : decode jdk_52_method_21_code 5 = .ok (.iload 4, 2) := by decide +kernel
theorem d_jdk_52_method_21_7 : decode jdk_52_method_21_code 7 = .ok (.if_icmp .ge 37, 3) := by decide +kernel
theorem d_jdk_52_method_21_10 : decode jdk_52_method_21_code 10 = .ok (.aload_n 0, 1) := by decide +kernel
theorem d_jdk_52_method_21_11 : decode jdk_52_method_21_code 11 = .ok (.iload_n 1, 1) := by decide +kernel
theorem d_jdk_52_method_21_12 : decode jdk_52_method_21_code 12 = .ok (.caload, 1) := by decide +kernel
theorem d_jdk_52_method_21_13 : decode jdk_52_method_21_code 13 = .ok (.istore 6, 2) := by decide +kernel
theorem d_jdk_52_method_21_15 : decode jdk_52_method_21_code 15 = .ok (.iload 6, 2) := by decide +kernel
theorem d_jdk_52_method_21_17 : decode jdk_52_method_21_code 17 = .ok (.sipush 255, 3) := by decide +kernel
theorem d_jdk_52_method_21_20 : decode jdk_52_method_21_code 20 = .ok (.if_icmp .le 6, 3) := by decide +kernel
theorem d_jdk_52_method_21_26 : decode jdk_52_method_21_code 26 = .ok (.aload_n 2, 1) := by decide +kernel
theorem d_jdk_52_method_21_27 : decode jdk_52_method_21_code 27 = .ok (.iload_n 3, 1) := by decide +kernel
theorem d_jdk_52_method_21_28 : decode jdk_52_method_21_code 28 = .ok (.iload 6, 2) := by decide +kernel
theorem d_jdk_52_method_21_30 : decode jdk_52_method_21_code 30 = .ok (.i2b, 1) := by decide +kernel
theorem d_jdk_52_method_21_31 : decode jdk_52_method_21_code 31 = .ok (.bastore, 1) := by decide +kernel
theorem d_jdk_52_method_21_32 : decode jdk_52_method_21_code 32 = .ok (.iinc 1 1, 3) := by decide +kernel
theorem d_jdk_52_method_21_35 : decode jdk_52_method_21_code 35 = .ok (.iinc 3 1, 3) := by decide +kernel
theorem d_jdk_52_method_21_38 : decode jdk_52_method_21_code 38 = .ok (.iinc 5 1, 3) := by decide +kernel
theorem d_jdk_52_method_21_41 : decode jdk_52_method_21_code 41 = .ok (.goto (-38), 3) := by decide +kernel
theorem d_jdk_52_method_21_44 : decode jdk_52_method_21_code 44 = .ok (.iload 4, 2) := by decide +kernel
theorem d_jdk_52_method_21_46 : decode jdk_52_method_21_code 46 = .ok (.ireturn, 1) := by decide +kernel
theorem pn_7 : plainName "java/lang/StringUTF16" = true := by first | (simp [plainName, overriddenIn]; done) | decide +kernel
theorem ef_c_compress_2i (m : MethodId) (x : Addr) (t : Addr) : entryFrame m #[(.ref x), (.int (0 : Int32)), (.ref t), (.int (0 : Int32)), (.int (2 : Int32))] 7 = mkF m 0 #[.val (.ref x), .val (.int (0 : Int32)), .val (.ref t), .val (.int (0 : Int32)), .val (.int (2 : Int32)), .unset, .unset] [] := by first | (simp [entryFrame, mkF, argsToLocals, Value.category]; done) | rfl
set_option maxRecDepth 65536 in
set_option maxHeartbeats 40000000 in
theorem c_compress_2i (l : Launch) (Z : State) (a0 : Array Value) (hw : ∀ d ∈ tables_1, d.before a0 Z = true) (x t : Addr) (cx ct : ClassId) (n0 : Nat) (c0 c1 : Int32) (h0 : Heap) (gt : n0 ≤ t) (hne : x ≠ t) (A : Arv Z h0 x cx .char 2 [.int c0, .int c1] (.int 0)) (B : Arv Z h0 t ct .byte 2 [.int 0, .int 0] (.int 0)) (hc0 : 0 ≤ c0.toInt ∧ c0.toInt ≤ 255) (hc1 : 0 ≤ c1.toInt ∧ c1.toInt ≤ 255) :
    Ctr l Z (⟨"java/lang/StringUTF16", "compress", "([CI[BII)I"⟩ : MethodName) jdk_52_method_21_code 7 (some .int) [] ({ frames := 0, cells := 0, slots := 0, locals := 0 } : Room) #[(.ref x), (.int (0 : Int32)), (.ref t), (.int (0 : Int32)), (.int (2 : Int32))] h0 (fun v h L => v = some (.int 2) ∧ Fr n0 L ∧ Keep h0 h [t] ∧ Arv Z h t ct .byte 2 [by8 c0, by8 c1] (.int 0)) := by
  refine Ctr.of (plainFor_of_name pn_7) ?_
  intro p e s m below meth c s₁ hx hby hml hret hown hnm hZ hlk X0 e0
  refine Goes.cast (ef_c_compress_2i m x t) ?_
  refine gIconst X0 hx (v := (0 : Int32)) (hb hby d_jdk_52_method_21_0) (pc' := 1) rfl rfl ?_
  refine gStoreI X0 hx (hb hby d_jdk_52_method_21_1) (l' := #[.val (.ref x), .val (.int (0 : Int32)), .val (.ref t), .val (.int (0 : Int32)), .val (.int (2 : Int32)), .val (.int (0 : Int32)), .unset]) (pc' := 3) rfl rfl ?_
  refine gLoadI X0 hx (hb hby d_jdk_52_method_21_3) (pc' := 5) rfl rfl ?_
  refine gLoadI X0 hx (hb hby d_jdk_52_method_21_5) (pc' := 7) rfl rfl ?_
  refine gIcmpGe X0 hx (hb hby d_jdk_52_method_21_7) (pc' := 44) (by decide) (by decide) (pn := 10) rfl (fun (c7 : (2 : Int) ≤ (0 : Int)) => ?_) (fun (c7 : (0 : Int) < (2 : Int)) => ?_)
  · exact absurd c7 (by decide)
  · refine gLoadAN X0 hx (hb hby d_jdk_52_method_21_10) (pc' := 11) rfl rfl rfl ?_
    refine gLoadIN X0 hx (hb hby d_jdk_52_method_21_11) (pc' := 12) rfl rfl ?_
    refine gCaload X0 hx hZ e0 A (j := (0 : Int32)) (v := (.int c0)) (by decide) (by decide) rfl (hb hby d_jdk_52_method_21_12) (pc' := 13) rfl ?_
    refine gStoreI X0 hx (hb hby d_jdk_52_method_21_13) (l' := #[.val (.ref x), .val (.int (0 : Int32)), .val (.ref t), .val (.int (0 : Int32)), .val (.int (2 : Int32)), .val (.int (0 : Int32)), .val (.int c0)]) (pc' := 15) rfl rfl ?_
    refine gLoadI X0 hx (hb hby d_jdk_52_method_21_15) (pc' := 17) rfl rfl ?_
    refine gSipush X0 hx (v := (255 : Int32)) (hb hby d_jdk_52_method_21_17) (pc' := 20) rfl rfl ?_
    refine gIcmpLe X0 hx (hb hby d_jdk_52_method_21_20) (pc' := 26) (by decide) (by decide) (pn := 23) rfl (fun (c20 : c0.toInt ≤ (255 : Int)) => ?_) (fun (c20 : (255 : Int) < c0.toInt) => ?_)
    · refine gLoadAN X0 hx (hb hby d_jdk_52_method_21_26) (pc' := 27) rfl rfl rfl ?_
      refine gLoadIN X0 hx (hb hby d_jdk_52_method_21_27) (pc' := 28) rfl rfl ?_
      refine gLoadI X0 hx (hb hby d_jdk_52_method_21_28) (pc' := 30) rfl rfl ?_
      refine gI2b X0 hx (hb hby d_jdk_52_method_21_30) (pc' := 31) rfl ?_
      refine gBastore X0 hx hZ e0 (x := (c0.toInt8.toInt32)) B (j := (0 : Int32)) (by decide) (by decide) 0 (by decide) (by simp) (hb hby d_jdk_52_method_21_31) (pc' := 32) rfl (fun T1 h1 X1 e1 W1 A1 => ?_)
      have f1_0 := A.other W1 hne
      have zs1 : h0.size ≤ h1.size := by rw [W1.size]; exact (Nat.le_refl _)
      have N1 := Fr.snoc X1 (Fr.nil n0) gt
      have K1 : Keep h0 h1 [t] := (Keep.refl h0 [t]).wr W1 (Or.inl (by simp))
      have V1 : Arv Z h1 t _ .byte (2 : Int32) [(.int (c0.toInt8.toInt32)), (.int (0 : Int32))] (.int 0) := (by have q := A1; rw [own_nb] at q; exact q)
      refine gIinc X1 hx (v := (1 : Int32)) (hb hby d_jdk_52_method_21_32) (l' := #[.val (.ref x), .val (.int (1 : Int32)), .val (.ref t), .val (.int (0 : Int32)), .val (.int (2 : Int32)), .val (.int (0 : Int32)), .val (.int c0)]) (pc' := 35) rfl rfl rfl rfl ?_
      refine gIinc X1 hx (v := (1 : Int32)) (hb hby d_jdk_52_method_21_35) (l' := #[.val (.ref x), .val (.int (1 : Int32)), .val (.ref t), .val (.int (1 : Int32)), .val (.int (2 : Int32)), .val (.int (0 : Int32)), .val (.int c0)]) (pc' := 38) rfl rfl rfl rfl ?_
      refine gIinc X1 hx (v := (1 : Int32)) (hb hby d_jdk_52_method_21_38) (l' := #[.val (.ref x), .val (.int (1 : Int32)), .val (.ref t), .val (.int (1 : Int32)), .val (.int (2 : Int32)), .val (.int (1 : Int32)), .val (.int c0)]) (pc' := 41) rfl rfl rfl rfl ?_
      refine gGoto X1 hx (hb hby d_jdk_52_method_21_41) (pc' := 3) (by decide) (by decide) ?_
      refine gLoadI X1 hx (hb hby d_jdk_52_method_21_3) (pc' := 5) rfl rfl ?_
      refine gLoadI X1 hx (hb hby d_jdk_52_method_21_5) (pc' := 7) rfl rfl ?_
      refine gIcmpGe X1 hx (hb hby d_jdk_52_method_21_7) (pc' := 44) (by decide) (by decide) (pn := 10) rfl (fun (c7' : (2 : Int) ≤ (1 : Int)) => ?_) (fun (c7' : (1 : Int) < (2 : Int)) => ?_)
      · exact absurd c7' (by decide)
      · refine gLoadAN X1 hx (hb hby d_jdk_52_method_21_10) (pc' := 11) rfl rfl rfl ?_
        refine gLoadIN X1 hx (hb hby d_jdk_52_method_21_11) (pc' := 12) rfl rfl ?_
        refine gCaload X1 hx hZ e1 f1_0 (j := (1 : Int32)) (v := (.int c1)) (by decide) (by decide) rfl (hb hby d_jdk_52_method_21_12) (pc' := 13) rfl ?_
        refine gStoreI X1 hx (hb hby d_jdk_52_method_21_13) (l' := #[.val (.ref x), .val (.int (1 : Int32)), .val (.ref t), .val (.int (1 : Int32)), .val (.int (2 : Int32)), .val (.int (1 : Int32)), .val (.int c1)]) (pc' := 15) rfl rfl ?_
        refine gLoadI X1 hx (hb hby d_jdk_52_method_21_15) (pc' := 17) rfl rfl ?_
        refine gSipush X1 hx (v := (255 : Int32)) (hb hby d_jdk_52_method_21_17) (pc' := 20) rfl rfl ?_
        refine gIcmpLe X1 hx (hb hby d_jdk_52_method_21_20) (pc' := 26) (by decide) (by decide) (pn := 23) rfl (fun (c20' : c1.toInt ≤ (255 : Int)) => ?_) (fun (c20' : (255 : Int) < c1.toInt) => ?_)
        · refine gLoadAN X1 hx (hb hby d_jdk_52_method_21_26) (pc' := 27) rfl rfl rfl ?_
          refine gLoadIN X1 hx (hb hby d_jdk_52_method_21_27) (pc' := 28) rfl rfl ?_
          refine gLoadI X1 hx (hb hby d_jdk_52_method_21_28) (pc' := 30) rfl rfl ?_
          refine gI2b X1 hx (hb hby d_jdk_52_method_21_30) (pc' := 31) rfl ?_
          refine gBastore X1 hx hZ e1 (x := (c1.toInt8.toInt32)) V1 (j := (1 : Int32)) (by decide) (by decide) 1 (by decide) (by simp) (hb hby d_jdk_52_method_21_31) (pc' := 32) rfl (fun T2 h2 X2 e2 W2 A2 => ?_)
          have f2_0 := f1_0.other W2 hne
          have zs2 : h0.size ≤ h2.size := by rw [W2.size]; exact zs1
          have N2 := Fr.snoc X2 N1 gt
          have K2 : Keep h0 h2 [t] := K1.wr W2 (Or.inl (by simp))
          have V2 : Arv Z h2 t _ .byte (2 : Int32) [(.int (c0.toInt8.toInt32)), (.int (c1.toInt8.toInt32))] (.int 0) := (by have q := A2; rw [own_nb] at q; exact q)
          refine gIinc X2 hx (v := (1 : Int32)) (hb hby d_jdk_52_method_21_32) (l' := #[.val (.ref x), .val (.int (2 : Int32)), .val (.ref t), .val (.int (1 : Int32)), .val (.int (2 : Int32)), .val (.int (1 : Int32)), .val (.int c1)]) (pc' := 35) rfl rfl rfl rfl ?_
          refine gIinc X2 hx (v := (1 : Int32)) (hb hby d_jdk_52_method_21_35) (l' := #[.val (.ref x), .val (.int (2 : Int32)), .val (.ref t), .val (.int (2 : Int32)), .val (.int (2 : Int32)), .val (.int (1 : Int32)), .val (.int c1)]) (pc' := 38) rfl rfl rfl rfl ?_
          refine gIinc X2 hx (v := (1 : Int32)) (hb hby d_jdk_52_method_21_38) (l' := #[.val (.ref x), .val (.int (2 : Int32)), .val (.ref t), .val (.int (2 : Int32)), .val (.int (2 : Int32)), .val (.int (2 : Int32)), .val (.int c1)]) (pc' := 41) rfl rfl rfl rfl ?_
          refine gGoto X2 hx (hb hby d_jdk_52_method_21_41) (pc' := 3) (by decide) (by decide) ?_
          refine gLoadI X2 hx (hb hby d_jdk_52_method_21_3) (pc' := 5) rfl rfl ?_
          refine gLoadI X2 hx (hb hby d_jdk_52_method_21_5) (pc' := 7) rfl rfl ?_
          refine gIcmpGe X2 hx (hb hby d_jdk_52_method_21_7) (pc' := 44) (by decide) (by decide) (pn := 10) rfl (fun (c7'' : (2 : Int) ≤ (2 : Int)) => ?_) (fun (c7'' : (2 : Int) < (2 : Int)) => ?_)
          · refine gLoadI X2 hx (hb hby d_jdk_52_method_21_44) (pc' := 46) rfl rfl ?_
            exact gRetI X2 hx hlk hret (hb hby d_jdk_52_method_21_46) (by decide) (by decide) (⟨rfl, N2, by rw [e2]; exact K2, by rw [e2]; exact V2⟩)
          · exact absurd c7'' (by decide)
        · exact absurd c20' (by omega)
    · exact absurd c20 (by omega)
theorem d_jdk_52_method_16_0 : decode jdk_52_method_16_code 0 = .ok (.iload_n 2, 1) := by decide +kernel
theorem d_jdk_52_method_16_1 : decode jdk_52_method_16_code 1 = .ok (.newarray .byte, 2) := by decide +kernel
theorem d_jdk_52_method_16_3 : decode jdk_52_method_16_code 3 = .ok (.astore_n 3, 1) := by decide +kernel
theorem d_jdk_52_method_16_4 : decode jdk_52_method_16_code 4 = .ok (.aload_n 0, 1) := by decide +kernel
theorem d_jdk_52_method_16_5 : decode jdk_52_method_16_code 5 = .ok (.iload_n 1, 1) := by decide +kernel
theorem d_jdk_52_method_16_6 : decode jdk_52_method_16_code 6 = .ok (.aload_n 3, 1) := by decide +kernel
theorem d_jdk_52_method_16_7 : decode jdk_52_method_16_code 7 = .ok (.iconst 0, 1) := by decide +kernel
theorem d_jdk_52_method_16_8 : decode jdk_52_method_16_code 8 = .ok (.iload_n 2, 1) := by decide +kernel
theorem d_jdk_52_method_16_9 : decode jdk_52_method_16_code 9 = .ok (.invokestatic 115, 3) := by decide +kernel
theorem pd_17 : parseMethodDescriptor "([CI[BII)I" = some ⟨[(.array .char), .int, (.array .byte), .int, .int], some .int⟩ := by decide +kernel
theorem d_jdk_52_method_16_12 : decode jdk_52_method_16_code 12 = .ok (.istore 4, 2) := by decide +kernel
theorem d_jdk_52_method_16_14 : decode jdk_52_method_16_code 14 = .ok (.iload 4, 2) := by decide +kernel
theorem d_jdk_52_method_16_16 : decode jdk_52_method_16_code 16 = .ok (.iload_n 2, 1) := by decide +kernel
theorem d_jdk_52_method_16_17 : decode jdk_52_method_16_code 17 = .ok (.if_icmp .eq 40, 3) := by decide +kernel
theorem d_jdk_52_method_16_57 : decode jdk_52_method_16_code 57 = .ok (.aload_n 3, 1) := by decide +kernel
theorem d_jdk_52_method_16_58 : decode jdk_52_method_16_code 58 = .ok (.areturn, 1) := by decide +kernel
theorem ef_c_compress_2 (m : MethodId) (x : Addr) : entryFrame m #[(.ref x), (.int (0 : Int32)), (.int (2 : Int32))] 6 = mkF m 0 #[.val (.ref x), .val (.int (0 : Int32)), .val (.int (2 : Int32)), .unset, .unset, .unset] [] := by first | (simp [entryFrame, mkF, argsToLocals, Value.category]; done) | rfl
set_option maxRecDepth 65536 in
set_option maxHeartbeats 40000000 in
theorem c_compress_2 (l : Launch) (Z : State) (a0 : Array Value) (hw : ∀ d ∈ tables_1, d.before a0 Z = true) (x : Addr) (cx : ClassId) (c0 c1 : Int32) (h0 : Heap) (A : Arv Z h0 x cx .char 2 [.int c0, .int c1] (.int 0)) (hc0 : 0 ≤ c0.toInt ∧ c0.toInt ≤ 255) (hc1 : 0 ≤ c1.toInt ∧ c1.toInt ≤ 255) :
    Ctr l Z (⟨"java/lang/StringUTF16", "compress", "([CII)[B"⟩ : MethodName) jdk_52_method_16_code 6 (some (.array .byte)) [] ({ frames := 1, cells := 1, slots := 2, locals := 18 } : Room) #[(.ref x), (.int (0 : Int32)), (.int (2 : Int32))] h0 (fun v h L => ∃ (t : Addr) (ct : ClassId), v = some (.ref t) ∧ h0.size ≤ t ∧ Fr h0.size L ∧ Keep h0 h [] ∧ Arv Z h t ct .byte 2 [by8 c0, by8 c1] (.int 0)) := by
  refine Ctr.of (plainFor_of_name pn_7) ?_
  intro p e s m below meth c s₁ hx hby hml hret hown hnm hZ hlk X0 e0
  refine Goes.cast (ef_c_compress_2 m x) ?_
  refine gLoadIN X0 hx (hb hby d_jdk_52_method_16_0) (pc' := 1) rfl rfl ?_
  refine gNewP X0 hx hZ (hw _ (List.mem_of_getElem? (i := 30) rfl)) e0 (n := (2 : Int32)) (hb hby d_jdk_52_method_16_1) (by decide) (cap := 2) (by decide) (by decide) (by decide) (by decide) 2 (pc' := 3) rfl (fun T1 h1 b1 ck1 X1 e1 g1 E1 A1 => ?_)
  have ne_x_b1 : x ≠ b1 := Nat.ne_of_lt (Nat.lt_of_lt_of_eq A.lt g1.symm)
  have f1_0 := A.ext E1
  have sz_b1 : h0.size ≤ b1 := Nat.le_trans (Nat.le_refl _) (Nat.le_of_eq g1.symm)
  have zs1 : h0.size ≤ h1.size := Nat.le_trans (Nat.le_refl _) E1.1
  have K1 : Keep h0 h1 [] := (Keep.refl h0 []).ext E1
  have V1 : Arv Z h1 b1 ck1 .byte (2 : Int32) [(.int (0 : Int32)), (.int (0 : Int32))] (.int (0 : Int32)) := A1
  refine gStoreAN X1 hx (hb hby d_jdk_52_method_16_3) (l' := #[.val (.ref x), .val (.int (0 : Int32)), .val (.int (2 : Int32)), .val (.ref b1), .unset, .unset]) (pc' := 4) rfl rfl rfl ?_
  refine gLoadAN X1 hx (hb hby d_jdk_52_method_16_4) (pc' := 5) rfl rfl rfl ?_
  refine gLoadIN X1 hx (hb hby d_jdk_52_method_16_5) (pc' := 6) rfl rfl ?_
  refine gLoadAN X1 hx (hb hby d_jdk_52_method_16_6) (pc' := 7) rfl rfl rfl ?_
  refine gIconst X1 hx (v := (0 : Int32)) (hb hby d_jdk_52_method_16_7) (pc' := 8) rfl rfl ?_
  refine gLoadIN X1 hx (hb hby d_jdk_52_method_16_8) (pc' := 9) rfl rfl ?_
  refine gCallS X1 hx hZ (y := (⟨"java/lang/StringUTF16", "compress", "([CI[BII)I"⟩ : MethodName)) hown e1 (by rw [hml]; rfl) (hw _ (List.mem_of_getElem? (i := 31) rfl)) (hw _ (List.mem_of_getElem? (i := 32) rfl)) (hw _ (List.mem_of_getElem? (i := 28) rfl)) (hw _ (List.mem_of_getElem? (i := 33) rfl)) (by decide) (argsL := [(.ref x), (.int (0 : Int32)), (.ref b1), (.int (0 : Int32)), (.int (2 : Int32))]) (st := []) (c_compress_2i l Z a0 hw x b1 cx ck1 h0.size c0 c1 h1 sz_b1 ne_x_b1 f1_0 V1 hc0 hc1) (lenOf pd_17 rfl) (hb hby d_jdk_52_method_16_9) (pc' := 12) rfl rfl (by decide) (W := 0) (Nat.le_of_eq rfl) (by decide) (by decide) (by decide) ?_
  intro T2 v2 L2 X2 hQ2
  obtain ⟨rfl, Nq2, Kq2, Aq2⟩ := hQ2
  have N2 := Fr.app (Fr.nil h0.size) Nq2
  have K2 : Keep h0 T2.heap [] := K1.trans Kq2 (allS (Or.inr sz_b1) all0)
  refine gStoreI X2 hx (hb hby d_jdk_52_method_16_12) (l' := #[.val (.ref x), .val (.int (0 : Int32)), .val (.int (2 : Int32)), .val (.ref b1), .val (.int (2 : Int32)), .unset]) (pc' := 14) rfl rfl ?_
  refine gLoadI X2 hx (hb hby d_jdk_52_method_16_14) (pc' := 16) rfl rfl ?_
  refine gLoadIN X2 hx (hb hby d_jdk_52_method_16_16) (pc' := 17) rfl rfl ?_
  refine gIcmpEqT X2 hx (hb hby d_jdk_52_method_16_17) (pc' := 57) (by decide) (by decide) (pn := 20) rfl (fun (c17 : (2 : Int) = (2 : Int)) => ?_) (fun (c17 : ¬ (2 : Int) = (2 : Int)) => ?_)
  · refine gLoadAN X2 hx (hb hby d_jdk_52_method_16_57) (pc' := 58) rfl rfl rfl ?_
    exact gRetA X2 hx hlk hret rfl rfl (hb hby d_jdk_52_method_16_58) (by decide) (by decide) (⟨b1, _, rfl, sz_b1, N2, K2, Aq2⟩)
  · exact absurd c17 (by decide)
theorem d_jdk_52_method_15_0 : decode jdk_52_method_15_code 0 = .ok (.iload_n 1, 1) := by decide +kernel
theorem d_jdk_52_method_15_1 : decode jdk_52_method_15_code 1 = .ok (.aload_n 0, 1) := by decide +kernel
theorem d_jdk_52_method_15_2 : decode jdk_52_method_15_code 2 = .ok (.arraylength, 1) := by decide +kernel
theorem d_jdk_52_method_15_3 : decode jdk_52_method_15_code 3 = .ok (.isub, 1) := by decide +kernel
theorem d_jdk_52_method_15_4 : decode jdk_52_method_15_code 4 = .ok (.bipush 31, 2) := by decide +kernel
theorem d_jdk_52_method_15_6 : decode jdk_52_method_15_code 6 = .ok (.iushr, 1) := by decide +kernel
theorem d_jdk_52_method_15_7 : decode jdk_52_method_15_code 7 = .ok (.i2b, 1) := by decide +kernel
theorem d_jdk_52_method_15_8 : decode jdk_52_method_15_code 8 = .ok (.ireturn, 1) := by decide +kernel
theorem ef_c_cfal_2 (m : MethodId) (t : Addr) : entryFrame m #[(.ref t), (.int (2 : Int32))] 2 = mkF m 0 #[.val (.ref t), .val (.int (2 : Int32))] [] := by first | (simp [entryFrame, mkF, argsToLocals, Value.category]; done) | rfl
set_option maxRecDepth 65536 in
set_option maxHeartbeats 40000000 in
theorem c_cfal_2 (l : Launch) (Z : State) (a0 : Array Value) (hw : ∀ d ∈ tables_1, d.before a0 Z = true) (t : Addr) (ck : ClassId) (c0 c1 : Int32) (h0 : Heap) (A : Arv Z h0 t ck .byte 2 [by8 c0, by8 c1] (.int 0)) :
    Ctr l Z (⟨"java/lang/StringUTF16", "coderFromArrayLen", "([BI)B"⟩ : MethodName) jdk_52_method_15_code 2 (some .byte) [] ({ frames := 0, cells := 0, slots := 0, locals := 0 } : Room) #[(.ref t), (.int (2 : Int32))] h0 (Just h0 (.int 0)) := by
  refine Ctr.of (plainFor_of_name pn_7) ?_
  intro p e s m below meth c s₁ hx hby hml hret hown hnm hZ hlk X0 e0
  refine Goes.cast (ef_c_cfal_2 m t) ?_
  refine gLoadIN X0 hx (hb hby d_jdk_52_method_15_0) (pc' := 1) rfl rfl ?_
  refine gLoadAN X0 hx (hb hby d_jdk_52_method_15_1) (pc' := 2) rfl rfl rfl ?_
  refine gArrLen X0 hx hZ e0 A (hb hby d_jdk_52_method_15_2) (pc' := 3) rfl ?_
  refine gIsub X0 hx (hb hby d_jdk_52_method_15_3) (pc' := 4) rfl ?_
  show Goes p e below _ s₁ (mkF m 4 #[.val (.ref t), .val (.int (2 : Int32))] [(.int (0 : Int32))])
  refine gBipush X0 hx (v := (31 : Int32)) (hb hby d_jdk_52_method_15_4) (pc' := 6) rfl rfl ?_
  refine gIushr X0 hx (hb hby d_jdk_52_method_15_6) (pc' := 7) rfl ?_
  show Goes p e below _ s₁ (mkF m 7 #[.val (.ref t), .val (.int (2 : Int32))] [(.int (0 : Int32))])
  refine gI2b X0 hx (hb hby d_jdk_52_method_15_7) (pc' := 8) rfl ?_
  show Goes p e below _ s₁ (mkF m 8 #[.val (.ref t), .val (.int (2 : Int32))] [(.int (0 : Int32))])
  exact gRetN X0 hx hlk hret (by simp) (hb hby d_jdk_52_method_15_8) (w := (0 : Int32)) rfl (by decide) (by decide) (⟨rfl, e0, rfl⟩)
theorem d_jdk_42_method_149_0 : decode jdk_42_method_149_code 0 = .ok (.aload_n 0, 1) := by decide +kernel
theorem d_jdk_42_method_149_1 : decode jdk_42_method_149_code 1 = .ok (.invokespecial 1, 3) := by decide +kernel
theorem d_jdk_42_method_149_4 : decode jdk_42_method_149_code 4 = .ok (.iload_n 3, 1) := by decide +kernel
theorem d_jdk_42_method_149_5 : decode jdk_42_method_149_code 5 = .ok (.ifCond .ne 22, 3) := by decide +kernel
theorem d_jdk_42_method_149_27 : decode jdk_42_method_149_code 27 = .ok (.getstatic 38, 3) := by decide +kernel
theorem d_jdk_42_method_149_30 : decode jdk_42_method_149_code 30 = .ok (.ifCond .eq 28, 3) := by decide +kernel
theorem d_jdk_42_method_149_33 : decode jdk_42_method_149_code 33 = .ok (.aload_n 1, 1) := by decide +kernel
theorem d_jdk_42_method_149_34 : decode jdk_42_method_149_code 34 = .ok (.iload_n 2, 1) := by decide +kernel
theorem d_jdk_42_method_149_35 : decode jdk_42_method_149_code 35 = .ok (.iload_n 3, 1) := by decide +kernel
theorem d_jdk_42_method_149_36 : decode jdk_42_method_149_code 36 = .ok (.invokestatic 177, 3) := by decide +kernel
theorem pd_15 : parseMethodDescriptor "([CII)[B" = some ⟨[(.array .char), .int, .int], some (.array .byte)⟩ := by decide +kernel
theorem d_jdk_42_method_149_39 : decode jdk_42_method_149_code 39 = .ok (.astore 5, 2) := by decide +kernel
theorem d_jdk_42_method_149_41 : decode jdk_42_method_149_code 41 = .ok (.aload_n 0, 1) := by decide +kernel
theorem d_jdk_42_method_149_42 : decode jdk_42_method_149_code 42 = .ok (.aload 5, 2) := by decide +kernel
theorem d_jdk_42_method_149_44 : decode jdk_42_method_149_code 44 = .ok (.iload_n 3, 1) := by decide +kernel
theorem d_jdk_42_method_149_45 : decode jdk_42_method_149_code 45 = .ok (.invokestatic 47, 3) := by decide +kernel
theorem pd_13 : parseMethodDescriptor "([BI)B" = some ⟨[(.array .byte), .int], some .byte⟩ := by decide +kernel
theorem d_jdk_42_method_149_48 : decode jdk_42_method_149_code 48 = .ok (.putfield 15, 3) := by decide +kernel
theorem d_jdk_42_method_149_51 : decode jdk_42_method_149_code 51 = .ok (.aload_n 0, 1) := by decide +kernel
theorem d_jdk_42_method_149_52 : decode jdk_42_method_149_code 52 = .ok (.aload 5, 2) := by decide +kernel
theorem d_jdk_42_method_149_54 : decode jdk_42_method_149_code 54 = .ok (.putfield 9, 3) := by decide +kernel
theorem d_jdk_42_method_149_57 : decode jdk_42_method_149_code 57 = .ok (.return_, 1) := by decide +kernel
theorem ef_c_sinit_2v (m : MethodId) (a : Addr) (x : Addr) : entryFrame m #[(.ref a), (.ref x), (.int (0 : Int32)), (.int (2 : Int32)), .null] 6 = mkF m 0 #[.val (.ref a), .val (.ref x), .val (.int (0 : Int32)), .val (.int (2 : Int32)), .val .null, .unset] [] := by first | (simp [entryFrame, mkF, argsToLocals, Value.category]; done) | rfl
set_option maxRecDepth 65536 in
set_option maxHeartbeats 40000000 in
theorem c_sinit_2v (l : Launch) (Z : State) (a0 : Array Value) (hw : ∀ d ∈ tables_1, d.before a0 Z = true) (a x : Addr) (cx : ClassId) (n0 : Nat) (c0 c1 : Int32) (h0 : Heap) (hCpt : Cpt Z h0) (ga : n0 ≤ a) (gz : n0 ≤ h0.size) (hax : x ≠ a) (E : Exa Z h0 a "java/lang/String") (C : Fld Z h0 a "java/lang/String" "coder" "B" (.int 0)) (V : Fld Z h0 a "java/lang/String" "value" "[B" .null) (A : Arv Z h0 x cx .char 2 [.int c0, .int c1] (.int 0)) (hc0 : 0 ≤ c0.toInt ∧ c0.toInt ≤ 255) (hc1 : 0 ≤ c1.toInt ∧ c1.toInt ≤ 255) :
    Ctr l Z (⟨"java/lang/String", "<init>", "([CIILjava/lang/Void;)V"⟩ : MethodName) jdk_42_method_149_code 6 none [] ({ frames := 2, cells := 1, slots := 2, locals := 37 } : Room) #[(.ref a), (.ref x), (.int (0 : Int32)), (.int (2 : Int32)), .null] h0 (fun v h L => ∃ (t : Addr) (ct : ClassId), v = none ∧ Fr n0 L ∧ Keep h0 h [a] ∧ h0.size ≤ t ∧ Exa Z h a "java/lang/String" ∧ Fld Z h a "java/lang/String" "coder" "B" (.int 0) ∧ Fld Z h a "java/lang/String" "value" "[B" (.ref t) ∧ Arv Z h t ct .byte 2 [by8 c0, by8 c1] (.int 0)) := by
  refine Ctr.of (plainFor_of_name pn_5) ?_
  intro p e s m below meth c s₁ hx hby hml hret hown hnm hZ hlk X0 e0
  refine Goes.cast (ef_c_sinit_2v m a x) ?_
  have hCpt0 := hCpt
  obtain ⟨cz, SC, hcz⟩ := hCpt0
  refine gLoadAN X0 hx (hb hby d_jdk_42_method_149_0) (pc' := 1) rfl rfl rfl ?_
  refine gInitO X0 hx hZ hown (hw _ (List.mem_of_getElem? (i := 22) rfl)) (hw _ (List.mem_of_getElem? (i := 23) rfl)) (hw _ (List.mem_of_getElem? (i := 24) rfl)) e0 (by rw [hml]; rfl) (hb hby d_jdk_42_method_149_1) (pc' := 4) rfl (by decide) (W := 0) (Nat.le_of_eq rfl) (by decide) (fun T1 X1 e1 => ?_)
  refine gLoadIN X1 hx (hb hby d_jdk_42_method_149_4) (pc' := 5) rfl rfl ?_
  refine gIfNeT X1 hx (hb hby d_jdk_42_method_149_5) (pc' := 27) (by decide) (by decide) (pn := 8) rfl (fun (c5 : ¬ (2 : Int) = (0 : Int)) => ?_) (fun (c5 : (2 : Int) = (0 : Int)) => ?_)
  · refine gGetS X1 hx hZ hown (hw _ (List.mem_of_getElem? (i := 25) rfl)) Via.refl e1 SC (hb hby d_jdk_42_method_149_27) (pc' := 30) rfl (fun T2 X2 e2 => ?_)
    refine gIfEqT X2 hx (hb hby d_jdk_42_method_149_30) (pc' := 58) (by decide) (by decide) (pn := 33) rfl (fun (c30 : cz.toInt = (0 : Int)) => ?_) (fun (c30 : ¬ cz.toInt = (0 : Int)) => ?_)
    · exact absurd c30 hcz
    · refine gLoadAN X2 hx (hb hby d_jdk_42_method_149_33) (pc' := 34) rfl rfl rfl ?_
      refine gLoadIN X2 hx (hb hby d_jdk_42_method_149_34) (pc' := 35) rfl rfl ?_
      refine gLoadIN X2 hx (hb hby d_jdk_42_method_149_35) (pc' := 36) rfl rfl ?_
      refine gCallS X2 hx hZ (y := (⟨"java/lang/StringUTF16", "compress", "([CII)[B"⟩ : MethodName)) hown e2 (by rw [hml]; rfl) (hw _ (List.mem_of_getElem? (i := 26) rfl)) (hw _ (List.mem_of_getElem? (i := 27) rfl)) (hw _ (List.mem_of_getElem? (i := 28) rfl)) (hw _ (List.mem_of_getElem? (i := 29) rfl)) (by decide) (argsL := [(.ref x), (.int (0 : Int32)), (.int (2 : Int32))]) (st := []) (c_compress_2 l Z a0 hw x cx c0 c1 h0 A hc0 hc1) (lenOf pd_15 rfl) (hb hby d_jdk_42_method_149_36) (pc' := 39) rfl rfl (by decide) (W := 0) (Nat.le_of_eq rfl) (by decide) (by decide) (by decide) ?_
      intro T3 v3 L3 X3 hQ3
      obtain ⟨t3, ct3, rfl, gt3, Nq3, Kq3, Aq3⟩ := hQ3
      have N3 := Fr.app (Fr.nil n0) (fun y hy => Nat.le_trans gz (Nq3 y hy))
      have K3 : Keep h0 T3.heap [a] := (Keep.refl h0 [a]).trans Kq3 all0
      have f3_0 := own_sta_keep SC Kq3 ns0
      have f3_1 := E.keep Kq3
      have f3_2 := C.keep Kq3 nin0
      have f3_3 := V.keep Kq3 nin0
      have nt3 : t3 ≠ a := Ne.symm (Nat.ne_of_lt (Nat.lt_of_lt_of_le E.lt gt3))
      refine gStoreA X3 hx (hb hby d_jdk_42_method_149_39) (l' := #[.val (.ref a), .val (.ref x), .val (.int (0 : Int32)), .val (.int (2 : Int32)), .val .null, .val (.ref t3)]) (pc' := 41) rfl rfl rfl ?_
      refine gLoadAN X3 hx (hb hby d_jdk_42_method_149_41) (pc' := 42) rfl rfl rfl ?_
      refine gLoadA X3 hx (hb hby d_jdk_42_method_149_42) (pc' := 44) rfl rfl rfl ?_
      refine gLoadIN X3 hx (hb hby d_jdk_42_method_149_44) (pc' := 45) rfl rfl ?_
      refine gCallSJ X3 hx hZ (y := (⟨"java/lang/StringUTF16", "coderFromArrayLen", "([BI)B"⟩ : MethodName)) hown rfl (by rw [hml]; rfl) (hw _ (List.mem_of_getElem? (i := 34) rfl)) (hw _ (List.mem_of_getElem? (i := 35) rfl)) (hw _ (List.mem_of_getElem? (i := 28) rfl)) (hw _ (List.mem_of_getElem? (i := 36) rfl)) (by decide) (argsL := [(.ref t3), (.int (2 : Int32))]) (st := [(.ref a)]) (c_cfal_2 l Z a0 hw t3 ct3 c0 c1 _ Aq3) (lenOf pd_13 rfl) (hb hby d_jdk_42_method_149_45) (pc' := 48) rfl rfl rfl rfl (by decide) (W := 1) (Nat.le_of_eq rfl) (by decide) (by decide) (by decide) ?_
      intro T4 X4 e4
      refine gPutF X4 hx hZ hown (hw _ (List.mem_of_getElem? (i := 37) rfl)) Via.refl e4 f3_2 f3_1 (Or.inr ⟨(hw _ (List.mem_of_getElem? (i := 38) rfl)), rfl, hnm⟩) (hw _ (List.mem_of_getElem? (i := 13) rfl)) (ty := .byte) (by decide) rfl rfl (hb hby d_jdk_42_method_149_48) (pc' := 51) rfl (fun T5 h5 X5 e5 W5 => ?_)
      have f5_0 := f3_0.wr W5
      have f5_1 := f3_1.wr W5
      have f5_2 := f3_2.same W5
      have f5_3 := f3_3.other W5 (Or.inr (slot_ne (Or.inr (hw _ (List.mem_of_getElem? (i := 40) rfl))) (Or.inr (hw _ (List.mem_of_getElem? (i := 38) rfl))) (by decide) (t := (.array .byte)) (t' := .byte) (by decide) (by decide)))
      have f5_4 := Aq3.other W5 nt3
      have zs5 : h0.size ≤ h5.size := by rw [W5.size]; exact Kq3.1
      have N5 := Fr.snoc X5 N3 ga
      have K5 : Keep h0 h5 [a] := K3.wr W5 (Or.inl (by simp))
      refine gLoadAN X5 hx (hb hby d_jdk_42_method_149_51) (pc' := 52) rfl rfl rfl ?_
      refine gLoadA X5 hx (hb hby d_jdk_42_method_149_52) (pc' := 54) rfl rfl rfl ?_
      refine gPutF X5 hx hZ hown (hw _ (List.mem_of_getElem? (i := 39) rfl)) Via.refl e5 f5_3 f5_1 (Or.inr ⟨(hw _ (List.mem_of_getElem? (i := 40) rfl)), rfl, hnm⟩) (hw _ (List.mem_of_getElem? (i := 13) rfl)) (ty := (.array .byte)) (by decide) rfl rfl (hb hby d_jdk_42_method_149_54) (pc' := 57) rfl (fun T6 h6 X6 e6 W6 => ?_)
      have f6_0 := f5_0.wr W6
      have f6_1 := f5_1.wr W6
      have f6_2 := f5_2.other W6 (Or.inr (slot_ne (Or.inr (hw _ (List.mem_of_getElem? (i := 38) rfl))) (Or.inr (hw _ (List.mem_of_getElem? (i := 40) rfl))) (by decide) (t := .byte) (t' := (.array .byte)) (by decide) (by decide)))
      have f6_3 := f5_3.same W6
      have f6_4 := f5_4.other W6 nt3
      have zs6 : h0.size ≤ h6.size := by rw [W6.size]; exact zs5
      have N6 := Fr.snoc X6 N5 ga
      have K6 : Keep h0 h6 [a] := K5.wr W6 (Or.inl (by simp))
      exact gRetV X6 hx hlk hret (hb hby d_jdk_42_method_149_57) (by decide) (by decide) (⟨t3, ct3, rfl, N6, by rw [e6]; exact K6, gt3, by rw [e6]; exact f6_1, by rw [e6]; exact f6_2, by rw [e6]; exact f6_3, by rw [e6]; exact f6_4⟩)
  · exact absurd c5 (by decide)
theorem d_jdk_42_method_3_0 : decode jdk_42_method_3_code 0 = .ok (.aload_n 0, 1) := by decide +kernel
theorem d_jdk_42_method_3_1 : decode jdk_42_method_3_code 1 = .ok (.aload_n 1, 1) := by decide +kernel
theorem d_jdk_42_method_3_2 : decode jdk_42_method_3_code 2 = .ok (.iconst 0, 1) := by decide +kernel
theorem d_jdk_42_method_3_3 : decode jdk_42_method_3_code 3 = .ok (.aload_n 1, 1) := by decide +kernel
theorem d_jdk_42_method_3_4 : decode jdk_42_method_3_code 4 = .ok (.arraylength, 1) := by decide +kernel
theorem d_jdk_42_method_3_5 : decode jdk_42_method_3_code 5 = .ok (.aconst_null, 1) := by decide +kernel
theorem d_jdk_42_method_3_6 : decode jdk_42_method_3_code 6 = .ok (.invokespecial 27, 3) := by decide +kernel
theorem pd_16 : parseMethodDescriptor "([CIILjava/lang/Void;)V" = some ⟨[(.array .char), .int, .int, (.object "java/lang/Void")], none⟩ := by decide +kernel
theorem d_jdk_42_method_3_9 : decode jdk_42_method_3_code 9 = .ok (.return_, 1) := by decide +kernel
theorem ef_c_sinit_2 (m : MethodId) (a : Addr) (x : Addr) : entryFrame m #[(.ref a), (.ref x)] 2 = mkF m 0 #[.val (.ref a), .val (.ref x)] [] := by first | (simp [entryFrame, mkF, argsToLocals, Value.category]; done) | rfl
set_option maxRecDepth 65536 in
set_option maxHeartbeats 40000000 in
theorem c_sinit_2 (l : Launch) (Z : State) (a0 : Array Value) (hw : ∀ d ∈ tables_1, d.before a0 Z = true) (a x : Addr) (cx : ClassId) (n0 : Nat) (c0 c1 : Int32) (h0 : Heap) (hCpt : Cpt Z h0) (ga : n0 ≤ a) (gz : n0 ≤ h0.size) (hax : x ≠ a) (E : Exa Z h0 a "java/lang/String") (C : Fld Z h0 a "java/lang/String" "coder" "B" (.int 0)) (V : Fld Z h0 a "java/lang/String" "value" "[B" .null) (A : Arv Z h0 x cx .char 2 [.int c0, .int c1] (.int 0)) (hc0 : 0 ≤ c0.toInt ∧ c0.toInt ≤ 255) (hc1 : 0 ≤ c1.toInt ∧ c1.toInt ≤ 255) :
    Ctr l Z (⟨"java/lang/String", "<init>", "([C)V"⟩ : MethodName) jdk_42_method_3_code 2 none [] ({ frames := 3, cells := 1, slots := 2, locals := 54 } : Room) #[(.ref a), (.ref x)] h0 (fun v h L => ∃ (t : Addr) (ct : ClassId), v = none ∧ Fr n0 L ∧ Keep h0 h [a] ∧ h0.size ≤ t ∧ Exa Z h a "java/lang/String" ∧ Fld Z h a "java/lang/String" "coder" "B" (.int 0) ∧ Fld Z h a "java/lang/String" "value" "[B" (.ref t) ∧ Arv Z h t ct .byte 2 [by8 c0, by8 c1] (.int 0)) := by
  refine Ctr.of (plainFor_of_name pn_5) ?_
  intro p e s m below meth c s₁ hx hby hml hret hown hnm hZ hlk X0 e0
  refine Goes.cast (ef_c_sinit_2 m a x) ?_
  refine gLoadAN X0 hx (hb hby d_jdk_42_method_3_0) (pc' := 1) rfl rfl rfl ?_
  refine gLoadAN X0 hx (hb hby d_jdk_42_method_3_1) (pc' := 2) rfl rfl rfl ?_
  refine gIconst X0 hx (v := (0 : Int32)) (hb hby d_jdk_42_method_3_2) (pc' := 3) rfl rfl ?_
  refine gLoadAN X0 hx (hb hby d_jdk_42_method_3_3) (pc' := 4) rfl rfl rfl ?_
  refine gArrLen X0 hx hZ e0 A (hb hby d_jdk_42_method_3_4) (pc' := 5) rfl ?_
  refine gNull X0 hx (hb hby d_jdk_42_method_3_5) (pc' := 6) rfl ?_
  refine gCallI X0 hx hZ (y := (⟨"java/lang/String", "<init>", "([CIILjava/lang/Void;)V"⟩ : MethodName)) rfl hown e0 (by rw [hml]; rfl) (hw _ (List.mem_of_getElem? (i := 18) rfl)) (hw _ (List.mem_of_getElem? (i := 19) rfl)) (hw _ (List.mem_of_getElem? (i := 14) rfl)) (hw _ (List.mem_of_getElem? (i := 21) rfl)) (by decide) (argsL := [(.ref x), (.int (0 : Int32)), (.int (2 : Int32)), .null]) (st := []) (c_sinit_2v l Z a0 hw a x cx n0 c0 c1 h0 hCpt ga gz hax E C V A hc0 hc1) (lenOf pd_16 rfl) (hb hby d_jdk_42_method_3_6) (pc' := 9) rfl rfl (by decide) (W := 0) (Nat.le_of_eq rfl) (by decide) (by decide) (by decide) ?_
  intro T1 v1 L1 X1 hQ1
  obtain ⟨t, ct, rfl, Nq, Kq, gt, Eq, Cq, Vq, Aq⟩ := hQ1
  exact gRetV X1 hx hlk hret (hb hby d_jdk_42_method_3_9) (by decide) (by decide) (⟨t, ct, rfl, Nq, Kq, gt, Eq, Cq, Vq, Aq⟩)
theorem d_jdk_42_method_149_8 : decode jdk_42_method_149_code 8 = .ok (.aload_n 0, 1) := by decide +kernel
theorem d_jdk_42_method_149_9 : decode jdk_42_method_149_code 9 = .ok (.ldc 7, 2) := by decide +kernel
theorem d_jdk_42_method_149_11 : decode jdk_42_method_149_code 11 = .ok (.getfield 9, 3) := by decide +kernel
theorem d_jdk_42_method_149_14 : decode jdk_42_method_149_code 14 = .ok (.putfield 9, 3) := by decide +kernel
theorem d_jdk_42_method_149_17 : decode jdk_42_method_149_code 17 = .ok (.aload_n 0, 1) := by decide +kernel
theorem d_jdk_42_method_149_18 : decode jdk_42_method_149_code 18 = .ok (.ldc 7, 2) := by decide +kernel
theorem d_jdk_42_method_149_20 : decode jdk_42_method_149_code 20 = .ok (.getfield 15, 3) := by decide +kernel
theorem d_jdk_42_method_149_23 : decode jdk_42_method_149_code 23 = .ok (.putfield 15, 3) := by decide +kernel
theorem d_jdk_42_method_149_26 : decode jdk_42_method_149_code 26 = .ok (.return_, 1) := by decide +kernel
theorem ef_c_sinit_0v (m : MethodId) (a : Addr) (x : Addr) : entryFrame m #[(.ref a), (.ref x), (.int (0 : Int32)), (.int (0 : Int32)), .null] 6 = mkF m 0 #[.val (.ref a), .val (.ref x), .val (.int (0 : Int32)), .val (.int (0 : Int32)), .val .null, .unset] [] := by first | (simp [entryFrame, mkF, argsToLocals, Value.category]; done) | rfl
set_option maxRecDepth 65536 in
set_option maxHeartbeats 40000000 in
theorem c_sinit_0v (l : Launch) (Z : State) (a0 : Array Value) (hw : ∀ d ∈ tables_1, d.before a0 Z = true) (a x : Addr) (cx : ClassId) (n0 : Nat) (h0 : Heap) (hEL : EW Z a0 [("java/lang/String", 7)]) (ga : n0 ≤ a) (E : Exa Z h0 a "java/lang/String") (C : Fld Z h0 a "java/lang/String" "coder" "B" (.int 0)) (V : Fld Z h0 a "java/lang/String" "value" "[B" .null) (A : Arv Z h0 x cx .char 0 [] (.int 0)) :
    CtrH l Z [("java/lang/String", 7)] [a] (⟨"java/lang/String", "<init>", "([CIILjava/lang/Void;)V"⟩ : MethodName) jdk_42_method_149_code 6 none [] ({ frames := 2, cells := 4, slots := 8, locals := 37 } : Room) #[(.ref a), (.ref x), (.int (0 : Int32)), (.int (0 : Int32)), .null] h0 (fun v h L => ∃ (t : Addr) (ct : ClassId), v = none ∧ Fr n0 L ∧ Keep h0 h [a] ∧ Exa Z h a "java/lang/String" ∧ Fld Z h a "java/lang/String" "coder" "B" (.int 0) ∧ Fld Z h a "java/lang/String" "value" "[B" (.ref t) ∧ Arv Z h t ct .byte 0 [] (.int 0)) := by
  refine CtrH.of (plainFor_of_name pn_5) ?_
  intro p e s m below meth c s₁ hx hby hml hret hown hnm hZ hlk X0 e0 hS H0 hSafe
  have wS : ∀ a ∈ Bundle.stringAtoms, a.before a0 Z = true := by
    intro d hd
    simp only [Bundle.stringAtoms, Bundle.sN, List.mem_cons, List.not_mem_nil, or_false] at hd
    rcases hd with rfl | rfl | rfl | rfl | rfl | rfl | rfl
    · exact (hw _ (List.mem_of_getElem? (i := 14) rfl))
    · exact (hw _ (List.mem_of_getElem? (i := 13) rfl))
    · exact (hw _ (List.mem_of_getElem? (i := 30) rfl))
    · exact (hw _ (List.mem_of_getElem? (i := 40) rfl))
    · exact (hw _ (List.mem_of_getElem? (i := 38) rfl))
    · exact (hw _ (List.mem_of_getElem? (i := 93) rfl))
    · exact (hw _ (List.mem_of_getElem? (i := 94) rfl))
  refine Goes.cast (ef_c_sinit_0v m a x) ?_
  refine gLoadAN X0 hx (hb hby d_jdk_42_method_149_0) (pc' := 1) rfl rfl rfl ?_
  refine gInitO X0 hx hZ hown (hw _ (List.mem_of_getElem? (i := 22) rfl)) (hw _ (List.mem_of_getElem? (i := 23) rfl)) (hw _ (List.mem_of_getElem? (i := 24) rfl)) e0 (by rw [hml]; rfl) (hb hby d_jdk_42_method_149_1) (pc' := 4) rfl (by decide) (W := 0) (Nat.le_of_eq rfl) (by decide) (fun T1 X1 e1 => ?_)
  refine gLoadIN X1 hx (hb hby d_jdk_42_method_149_4) (pc' := 5) rfl rfl ?_
  refine gIfNeT X1 hx (hb hby d_jdk_42_method_149_5) (pc' := 27) (by decide) (by decide) (pn := 8) rfl (fun (c5 : ¬ (0 : Int) = (0 : Int)) => ?_) (fun (c5 : (0 : Int) = (0 : Int)) => ?_)
  · exact absurd c5 (by decide)
  · refine gLoadAN X1 hx (hb hby d_jdk_42_method_149_8) (pc' := 9) rfl rfl rfl ?_
    refine gLdcC X1 hx hZ hown (hw _ (List.mem_of_getElem? (i := 92) rfl)) wS e1 hS (Nat.zero_le _) hEL (by simp) H0 (vs := []) (z := 0) ⟨by decide, by decide⟩ (by decide) (by decide) (hb hby d_jdk_42_method_149_9) (pc' := 11) rfl (n := 0) (by decide) (by decide) (by decide) (by decide) (fun a2 T2 h2 k2 b2 ck2 X2 e2 E2 hS hk2 hZ hown C2 H2 Ex2 Fc2 Fv2 A2 sf2 => ?_)
    have s2_0 := C2.safe E.lt (hSafe _ (by simp))
    have f2_0 := E.ext E2
    have f2_1 := C.ext E2
    have f2_2 := V.ext E2
    have zs2 : h0.size ≤ h2.size := Nat.le_trans (Nat.le_refl _) E2.1
    have K2 : Keep h0 h2 [a] := (Keep.refl h0 [a]).ext E2
    refine gGetF X2 hx hZ hown (hw _ (List.mem_of_getElem? (i := 39) rfl)) Via.refl e2 Fv2 (hb hby d_jdk_42_method_149_11) (pc' := 14) rfl (fun T3 X3 e3 => ?_)
    refine gPutF X3 hx hZ hown (hw _ (List.mem_of_getElem? (i := 39) rfl)) Via.refl e3 f2_2 f2_0 (Or.inr ⟨(hw _ (List.mem_of_getElem? (i := 40) rfl)), rfl, hnm⟩) (hw _ (List.mem_of_getElem? (i := 13) rfl)) (ty := (.array .byte)) (by decide) rfl rfl (hb hby d_jdk_42_method_149_14) (pc' := 17) rfl (fun T4 h4 X4 e4 W4 => ?_)
    have S4 := s2_0
    have H4 := H2.trans (CHr.wr W4 S4 H2.1)
    have hk4 := Nat.le_trans hk2 (Nat.le_of_eq W4.size.symm)
    have s4_0 := Safe.wr W4 S4 H2.1 s2_0
    have f4_0 := f2_0.wr W4
    have f4_1 := f2_1.other W4 (Or.inr (slot_ne (Or.inr (hw _ (List.mem_of_getElem? (i := 38) rfl))) (Or.inr (hw _ (List.mem_of_getElem? (i := 40) rfl))) (by decide) (t := .byte) (t' := (.array .byte)) (by decide) (by decide)))
    have f4_2 := f2_2.same W4
    have f4_3 := Ex2.wr W4
    have f4_4 := Fc2.other W4 (Or.inl (Ne.symm (sf2 _ s2_0).1))
    have f4_5 := Fv2.other W4 (Or.inl (Ne.symm (sf2 _ s2_0).1))
    have f4_6 := A2.other W4 (Ne.symm (sf2 _ s2_0).2)
    have zs4 : h0.size ≤ h4.size := by rw [W4.size]; exact zs2
    have N4 := Fr.snoc X4 (Fr.nil n0) ga
    have K4 : Keep h0 h4 [a] := K2.wr W4 (Or.inl (by simp))
    refine gLoadAN X4 hx (hb hby d_jdk_42_method_149_17) (pc' := 18) rfl rfl rfl ?_
    refine gLdcC X4 hx hZ hown (hw _ (List.mem_of_getElem? (i := 92) rfl)) wS e4 hS hk4 hEL (by simp) H4 (vs := []) (z := 0) ⟨by decide, by decide⟩ (by decide) (by decide) (hb hby d_jdk_42_method_149_18) (pc' := 20) rfl (n := 0) (by decide) (by decide) (by decide) (by decide) (fun a5 T5 h5 k5 b5 ck5 X5 e5 E5 hS hk5 hZ hown C5 H5 Ex5 Fc5 Fv5 A5 sf5 => ?_)
    have s5_0 := C5.safe f4_0.lt s4_0
    have f5_0 := f4_0.ext E5
    have f5_1 := f4_1.ext E5
    have f5_2 := f4_2.ext E5
    have f5_3 := f4_3.ext E5
    have f5_4 := f4_4.ext E5
    have f5_5 := f4_5.ext E5
    have f5_6 := f4_6.ext E5
    have zs5 : h0.size ≤ h5.size := Nat.le_trans zs4 E5.1
    have K5 : Keep h0 h5 [a] := K4.ext E5
    refine gGetF X5 hx hZ hown (hw _ (List.mem_of_getElem? (i := 37) rfl)) Via.refl e5 Fc5 (hb hby d_jdk_42_method_149_20) (pc' := 23) rfl (fun T6 X6 e6 => ?_)
    refine gPutF X6 hx hZ hown (hw _ (List.mem_of_getElem? (i := 37) rfl)) Via.refl e6 f5_1 f5_0 (Or.inr ⟨(hw _ (List.mem_of_getElem? (i := 38) rfl)), rfl, hnm⟩) (hw _ (List.mem_of_getElem? (i := 13) rfl)) (ty := .byte) (by decide) rfl rfl (hb hby d_jdk_42_method_149_23) (pc' := 26) rfl (fun T7 h7 X7 e7 W7 => ?_)
    have S7 := s5_0
    have H7 := H5.trans (CHr.wr W7 S7 H5.1)
    have hk7 := Nat.le_trans hk5 (Nat.le_of_eq W7.size.symm)
    have s7_0 := Safe.wr W7 S7 H5.1 s5_0
    have f7_0 := f5_0.wr W7
    have f7_1 := f5_1.same W7
    have f7_2 := f5_2.other W7 (Or.inr (slot_ne (Or.inr (hw _ (List.mem_of_getElem? (i := 40) rfl))) (Or.inr (hw _ (List.mem_of_getElem? (i := 38) rfl))) (by decide) (t := (.array .byte)) (t' := .byte) (by decide) (by decide)))
    have f7_3 := f5_3.wr W7
    have f7_4 := f5_4.other W7 (Or.inl (Ne.symm (sf2 _ s2_0).1))
    have f7_5 := f5_5.other W7 (Or.inl (Ne.symm (sf2 _ s2_0).1))
    have f7_6 := f5_6.other W7 (Ne.symm (sf2 _ s2_0).2)
    have f7_7 := Ex5.wr W7
    have f7_8 := Fc5.other W7 (Or.inl (Ne.symm (sf5 _ s5_0).1))
    have f7_9 := Fv5.other W7 (Or.inl (Ne.symm (sf5 _ s5_0).1))
    have f7_10 := A5.other W7 (Ne.symm (sf5 _ s5_0).2)
    have zs7 : h0.size ≤ h7.size := by rw [W7.size]; exact zs5
    have N7 := Fr.snoc X7 N4 ga
    have K7 : Keep h0 h7 [a] := K5.wr W7 (Or.inl (by simp))
    exact gRetHV X7 hx hlk hret (hb hby d_jdk_42_method_149_26) e7 hS hk7 hZ hEL H7 (by decide) (by decide) (⟨b2, _, rfl, N7, by rw [e7]; exact K7, by rw [e7]; exact f7_0, by rw [e7]; exact f7_1, by rw [e7]; exact f7_2, by rw [e7]; exact f7_6⟩)
theorem ef_c_sinit_0 (m : MethodId) (a : Addr) (x : Addr) : entryFrame m #[(.ref a), (.ref x)] 2 = mkF m 0 #[.val (.ref a), .val (.ref x)] [] := by first | (simp [entryFrame, mkF, argsToLocals, Value.category]; done) | rfl
set_option maxRecDepth 65536 in
set_option maxHeartbeats 40000000 in
theorem c_sinit_0 (l : Launch) (Z : State) (a0 : Array Value) (hw : ∀ d ∈ tables_1, d.before a0 Z = true) (a x : Addr) (cx : ClassId) (n0 : Nat) (h0 : Heap) (hEL : EW Z a0 [("java/lang/String", 7)]) (ga : n0 ≤ a) (E : Exa Z h0 a "java/lang/String") (C : Fld Z h0 a "java/lang/String" "coder" "B" (.int 0)) (V : Fld Z h0 a "java/lang/String" "value" "[B" .null) (A : Arv Z h0 x cx .char 0 [] (.int 0)) :
    CtrH l Z [("java/lang/String", 7)] [a] (⟨"java/lang/String", "<init>", "([C)V"⟩ : MethodName) jdk_42_method_3_code 2 none [] ({ frames := 3, cells := 4, slots := 8, locals := 54 } : Room) #[(.ref a), (.ref x)] h0 (fun v h L => ∃ (t : Addr) (ct : ClassId), v = none ∧ Fr n0 L ∧ Keep h0 h [a] ∧ Exa Z h a "java/lang/String" ∧ Fld Z h a "java/lang/String" "coder" "B" (.int 0) ∧ Fld Z h a "java/lang/String" "value" "[B" (.ref t) ∧ Arv Z h t ct .byte 0 [] (.int 0)) := by
  refine CtrH.of (plainFor_of_name pn_5) ?_
  intro p e s m below meth c s₁ hx hby hml hret hown hnm hZ hlk X0 e0 hS H0 hSafe
  refine Goes.cast (ef_c_sinit_0 m a x) ?_
  refine gLoadAN X0 hx (hb hby d_jdk_42_method_3_0) (pc' := 1) rfl rfl rfl ?_
  refine gLoadAN X0 hx (hb hby d_jdk_42_method_3_1) (pc' := 2) rfl rfl rfl ?_
  refine gIconst X0 hx (v := (0 : Int32)) (hb hby d_jdk_42_method_3_2) (pc' := 3) rfl rfl ?_
  refine gLoadAN X0 hx (hb hby d_jdk_42_method_3_3) (pc' := 4) rfl rfl rfl ?_
  refine gArrLen X0 hx hZ e0 A (hb hby d_jdk_42_method_3_4) (pc' := 5) rfl ?_
  refine gNull X0 hx (hb hby d_jdk_42_method_3_5) (pc' := 6) rfl ?_
  refine gCallIH X0 hx hZ (y := (⟨"java/lang/String", "<init>", "([CIILjava/lang/Void;)V"⟩ : MethodName)) rfl hown e0 (by rw [hml]; rfl) hS (Nat.zero_le _) hEL H0 (hw _ (List.mem_of_getElem? (i := 18) rfl)) (hw _ (List.mem_of_getElem? (i := 19) rfl)) (hw _ (List.mem_of_getElem? (i := 14) rfl)) (hw _ (List.mem_of_getElem? (i := 21) rfl)) (by decide) (sl1 E.lt (hSafe _ (by simp))) (argsL := [(.ref x), (.int (0 : Int32)), (.int (0 : Int32)), .null]) (st := []) (c_sinit_0v l Z a0 hw a x cx n0 h0 hEL ga E C V A) (lenOf pd_16 rfl) (hb hby d_jdk_42_method_3_6) (pc' := 9) rfl rfl (by decide) (W := 0) (Nat.le_of_eq rfl) (by decide) (by decide) (by decide) ?_
  intro T1 v1 L1 X1 hS hZ hown C1 H1 hQ1
  have s1_0 := C1.safe E.lt (hSafe _ (by simp))
  obtain ⟨t, ct, rfl, Nq, Kq, Eq, Cq, Vq, Aq⟩ := hQ1
  exact gRetHV X1 hx hlk hret (hb hby d_jdk_42_method_3_9) rfl hS (Nat.le_refl _) hZ hEL H1 (by decide) (by decide) (⟨t, ct, rfl, Nq, Kq, Eq, Cq, Vq, Aq⟩)
theorem own_char (x : Int32) : 0 ≤ ((x &&& 255).toUInt32.toUInt16.toUInt32.toInt32).toInt ∧ ((x &&& 255).toUInt32.toUInt16.toUInt32.toInt32).toInt ≤ 255 := by
  rw [own_i2c, own_mask, own_mask8]; omega
theorem d_method_3_0 : decode method_3_code 0 = .ok (.iload_n 0, 1) := by decide +kernel
theorem d_method_3_1 : decode method_3_code 1 = .ok (.iconst 3, 1) := by decide +kernel
theorem d_method_3_2 : decode method_3_code 2 = .ok (.iand, 1) := by decide +kernel
theorem d_method_3_3 : decode method_3_code 3 = .ok (.istore_n 1, 1) := by decide +kernel
theorem d_method_3_4 : decode method_3_code 4 = .ok (.iload_n 0, 1) := by decide +kernel
theorem d_method_3_5 : decode method_3_code 5 = .ok (.bipush 8, 2) := by decide +kernel
theorem d_method_3_7 : decode method_3_code 7 = .ok (.iushr, 1) := by decide +kernel
theorem d_method_3_8 : decode method_3_code 8 = .ok (.sipush 255, 3) := by decide +kernel
theorem d_method_3_11 : decode method_3_code 11 = .ok (.iand, 1) := by decide +kernel
theorem d_method_3_12 : decode method_3_code 12 = .ok (.i2c, 1) := by decide +kernel
theorem d_method_3_13 : decode method_3_code 13 = .ok (.istore_n 2, 1) := by decide +kernel
theorem d_method_3_14 : decode method_3_code 14 = .ok (.iload_n 0, 1) := by decide +kernel
theorem d_method_3_15 : decode method_3_code 15 = .ok (.bipush 16, 2) := by decide +kernel
theorem d_method_3_17 : decode method_3_code 17 = .ok (.iushr, 1) := by decide +kernel
theorem d_method_3_18 : decode method_3_code 18 = .ok (.sipush 255, 3) := by decide +kernel
theorem d_method_3_21 : decode method_3_code 21 = .ok (.iand, 1) := by decide +kernel
theorem d_method_3_22 : decode method_3_code 22 = .ok (.i2c, 1) := by decide +kernel
theorem d_method_3_23 : decode method_3_code 23 = .ok (.istore_n 3, 1) := by decide +kernel
theorem d_method_3_24 : decode method_3_code 24 = .ok (.iload_n 1, 1) := by decide +kernel
theorem d_method_3_25 : decode method_3_code 25 = .ok (.ifCond .ne 14, 3) := by decide +kernel
theorem d_method_3_39 : decode method_3_code 39 = .ok (.iload_n 1, 1) := by decide +kernel
theorem d_method_3_40 : decode method_3_code 40 = .ok (.iconst 1, 1) := by decide +kernel
theorem d_method_3_41 : decode method_3_code 41 = .ok (.if_icmp .ne 8, 3) := by decide +kernel
theorem d_method_3_49 : decode method_3_code 49 = .ok (.iconst 2, 1) := by decide +kernel
theorem d_method_3_50 : decode method_3_code 50 = .ok (.newarray .char, 2) := by decide +kernel
theorem d_method_3_52 : decode method_3_code 52 = .ok (.astore 4, 2) := by decide +kernel
theorem d_method_3_54 : decode method_3_code 54 = .ok (.aload 4, 2) := by decide +kernel
theorem d_method_3_56 : decode method_3_code 56 = .ok (.iconst 0, 1) := by decide +kernel
theorem d_method_3_57 : decode method_3_code 57 = .ok (.iload_n 2, 1) := by decide +kernel
theorem d_method_3_58 : decode method_3_code 58 = .ok (.castore, 1) := by decide +kernel
theorem d_method_3_59 : decode method_3_code 59 = .ok (.aload 4, 2) := by decide +kernel
theorem d_method_3_61 : decode method_3_code 61 = .ok (.iconst 1, 1) := by decide +kernel
theorem d_method_3_62 : decode method_3_code 62 = .ok (.iload_n 3, 1) := by decide +kernel
theorem d_method_3_63 : decode method_3_code 63 = .ok (.castore, 1) := by decide +kernel
theorem d_method_3_64 : decode method_3_code 64 = .ok (.new 20, 3) := by decide +kernel
theorem d_method_3_67 : decode method_3_code 67 = .ok (.dup, 1) := by decide +kernel
theorem d_method_3_68 : decode method_3_code 68 = .ok (.aload 4, 2) := by decide +kernel
theorem d_method_3_70 : decode method_3_code 70 = .ok (.invokespecial 22, 3) := by decide +kernel
theorem pd_14 : parseMethodDescriptor "([C)V" = some ⟨[(.array .char)], none⟩ := by decide +kernel
theorem d_method_3_73 : decode method_3_code 73 = .ok (.areturn, 1) := by decide +kernel
theorem d_method_3_44 : decode method_3_code 44 = .ok (.iload_n 2, 1) := by decide +kernel
theorem d_method_3_45 : decode method_3_code 45 = .ok (.invokestatic 25, 3) := by decide +kernel
theorem pd_4 : parseMethodDescriptor "(C)Ljava/lang/String;" = some ⟨[.char], some (.object "java/lang/String")⟩ := by decide +kernel
theorem d_method_3_48 : decode method_3_code 48 = .ok (.areturn, 1) := by decide +kernel
theorem d_method_3_28 : decode method_3_code 28 = .ok (.new 20, 3) := by decide +kernel
theorem d_method_3_31 : decode method_3_code 31 = .ok (.dup, 1) := by decide +kernel
theorem d_method_3_32 : decode method_3_code 32 = .ok (.iconst 0, 1) := by decide +kernel
theorem d_method_3_33 : decode method_3_code 33 = .ok (.newarray .char, 2) := by decide +kernel
theorem d_method_3_35 : decode method_3_code 35 = .ok (.invokespecial 22, 3) := by decide +kernel
theorem d_method_3_38 : decode method_3_code 38 = .ok (.areturn, 1) := by decide +kernel
theorem ef_c_str (m : MethodId) (p0 : Int32) : entryFrame m #[(.int p0)] 5 = mkF m 0 #[.val (.int p0), .unset, .unset, .unset, .unset] [] := by first | (simp [entryFrame, mkF, argsToLocals, Value.category]; done) | rfl
set_option maxRecDepth 65536 in
set_option maxHeartbeats 40000000 in
theorem c_str (l : Launch) (Z : State) (a0 : Array Value) (hw : ∀ d ∈ tables_1, d.before a0 Z = true) (p0 : Int32) (h0 : Heap) (hEL : EW Z a0 [("java/lang/String", 7)]) (hCpt : Cpt Z h0) :
    CtrH l Z [("java/lang/String", 7)] [] (⟨"com/example/clausewright/clausewright/contract/UnitKeyPinLaw", "str", "(I)Ljava/lang/String;"⟩ : MethodName) method_3_code 5 (some (.object "java/lang/String")) [] ({ frames := 4, cells := 6, slots := 12, locals := 72 } : Room) #[(.int p0)] h0 (fun v h L => ∃ a : Addr, v = some (.ref a) ∧ Fr h0.size L ∧ Keep h0 h [] ∧ Exa Z h a "java/lang/String") := by
  refine CtrH.of (plainFor_of_name pn_2) ?_
  intro p e s m below meth c s₁ hx hby hml hret hown hnm hZ hlk X0 e0 hS H0 hSafe
  refine Goes.cast (ef_c_str m p0) ?_
  refine gLoadIN X0 hx (hb hby d_method_3_0) (pc' := 1) rfl rfl ?_
  refine gIconst X0 hx (v := (3 : Int32)) (hb hby d_method_3_1) (pc' := 2) rfl rfl ?_
  refine gIand X0 hx (hb hby d_method_3_2) (pc' := 3) rfl ?_
  refine gStoreIN X0 hx (hb hby d_method_3_3) (l' := #[.val (.int p0), .val (.int (p0 &&& (3 : Int32))), .unset, .unset, .unset]) (pc' := 4) rfl rfl ?_
  refine gLoadIN X0 hx (hb hby d_method_3_4) (pc' := 5) rfl rfl ?_
  refine gBipush X0 hx (v := (8 : Int32)) (hb hby d_method_3_5) (pc' := 7) rfl rfl ?_
  refine gIushr X0 hx (hb hby d_method_3_7) (pc' := 8) rfl ?_
  refine gSipush X0 hx (v := (255 : Int32)) (hb hby d_method_3_8) (pc' := 11) rfl rfl ?_
  refine gIand X0 hx (hb hby d_method_3_11) (pc' := 12) rfl ?_
  refine gI2c X0 hx (hb hby d_method_3_12) (pc' := 13) rfl ?_
  generalize hg_c0 : ((((p0.toUInt32 >>> ((8 : Int32) &&& 31).toUInt32).toInt32) &&& (255 : Int32)).toUInt32.toUInt16.toUInt32.toInt32) = c0
  have hc0 : 0 ≤ c0.toInt ∧ c0.toInt ≤ 255 := by rw [← hg_c0]; exact own_char _
  refine gStoreIN X0 hx (hb hby d_method_3_13) (l' := #[.val (.int p0), .val (.int (p0 &&& (3 : Int32))), .val (.int c0), .unset, .unset]) (pc' := 14) rfl rfl ?_
  refine gLoadIN X0 hx (hb hby d_method_3_14) (pc' := 15) rfl rfl ?_
  refine gBipush X0 hx (v := (16 : Int32)) (hb hby d_method_3_15) (pc' := 17) rfl rfl ?_
  refine gIushr X0 hx (hb hby d_method_3_17) (pc' := 18) rfl ?_
  refine gSipush X0 hx (v := (255 : Int32)) (hb hby d_method_3_18) (pc' := 21) rfl rfl ?_
  refine gIand X0 hx (hb hby d_method_3_21) (pc' := 22) rfl ?_
  refine gI2c X0 hx (hb hby d_method_3_22) (pc' := 23) rfl ?_
  generalize hg_c1 : ((((p0.toUInt32 >>> ((16 : Int32) &&& 31).toUInt32).toInt32) &&& (255 : Int32)).toUInt32.toUInt16.toUInt32.toInt32) = c1
  have hc1 : 0 ≤ c1.toInt ∧ c1.toInt ≤ 255 := by rw [← hg_c1]; exact own_char _
  refine gStoreIN X0 hx (hb hby d_method_3_23) (l' := #[.val (.int p0), .val (.int (p0 &&& (3 : Int32))), .val (.int c0), .val (.int c1), .unset]) (pc' := 24) rfl rfl ?_
  refine gLoadIN X0 hx (hb hby d_method_3_24) (pc' := 25) rfl rfl ?_
  refine gIfNeT X0 hx (hb hby d_method_3_25) (pc' := 39) (by decide) (by decide) (pn := 28) rfl (fun (c25 : ¬ (p0 &&& (3 : Int32)).toInt = (0 : Int)) => ?_) (fun (c25 : (p0 &&& (3 : Int32)).toInt = (0 : Int)) => ?_)
  · refine gLoadIN X0 hx (hb hby d_method_3_39) (pc' := 40) rfl rfl ?_
    refine gIconst X0 hx (v := (1 : Int32)) (hb hby d_method_3_40) (pc' := 41) rfl rfl ?_
    refine gIcmpNeT X0 hx (hb hby d_method_3_41) (pc' := 49) (by decide) (by decide) (pn := 44) rfl (fun (c41 : ¬ (p0 &&& (3 : Int32)).toInt = (1 : Int)) => ?_) (fun (c41 : (p0 &&& (3 : Int32)).toInt = (1 : Int)) => ?_)
    · refine gIconst X0 hx (v := (2 : Int32)) (hb hby d_method_3_49) (pc' := 50) rfl rfl ?_
      refine gNewP X0 hx hZ (hw _ (List.mem_of_getElem? (i := 11) rfl)) e0 (n := (2 : Int32)) (hb hby d_method_3_50) (by decide) (cap := 2) (by decide) (by decide) (by decide) (by decide) 2 (pc' := 52) rfl (fun T1 h1 b1 ck1 X1 e1 g1 E1 A1 => ?_)
      have H1 := H0.trans (CHr.ext E1 H0.1)
      have hk1 := Nat.le_trans (Nat.zero_le _) E1.1
      have s1_b := Safe.ext E1 H0.1 (Safe.new (Nat.le_of_eq g1.symm))
      have f1_0 := hCpt.ext E1
      have sz_b1 : h0.size ≤ b1 := Nat.le_trans (Nat.le_refl _) (Nat.le_of_eq g1.symm)
      have zs1 : h0.size ≤ h1.size := Nat.le_trans (Nat.le_refl _) E1.1
      have K1 : Keep h0 h1 [] := (Keep.refl h0 []).ext E1
      have V1 : Arv Z h1 b1 ck1 .char (2 : Int32) [(.int (0 : Int32)), (.int (0 : Int32))] (.int (0 : Int32)) := A1
      refine gStoreA X1 hx (hb hby d_method_3_52) (l' := #[.val (.int p0), .val (.int (p0 &&& (3 : Int32))), .val (.int c0), .val (.int c1), .val (.ref b1)]) (pc' := 54) rfl rfl rfl ?_
      refine gLoadA X1 hx (hb hby d_method_3_54) (pc' := 56) rfl rfl rfl ?_
      refine gIconst X1 hx (v := (0 : Int32)) (hb hby d_method_3_56) (pc' := 57) rfl rfl ?_
      refine gLoadIN X1 hx (hb hby d_method_3_57) (pc' := 58) rfl rfl ?_
      refine gCastore X1 hx hZ e1 (x := c0) V1 (j := (0 : Int32)) (by decide) (by decide) 0 (by decide) (by simp) (hb hby d_method_3_58) (pc' := 59) rfl (fun T2 h2 X2 e2 W2 A2 => ?_)
      have S2 := s1_b
      have H2 := H1.trans (CHr.wr W2 S2 H1.1)
      have hk2 := Nat.le_trans hk1 (Nat.le_of_eq W2.size.symm)
      have s2_0 := Safe.wr W2 S2 H1.1 s1_b
      have f2_0 := f1_0.wr W2
      have zs2 : h0.size ≤ h2.size := by rw [W2.size]; exact zs1
      have N2 := Fr.snoc X2 (Fr.nil h0.size) sz_b1
      have K2 : Keep h0 h2 [] := K1.wr W2 (Or.inr sz_b1)
      have V2 : Arv Z h2 b1 _ .char (2 : Int32) [(.int c0), (.int (0 : Int32))] (.int (0 : Int32)) := (by have q := A2; rw [own_nc (own_c8 hc0)] at q; exact q)
      refine gLoadA X2 hx (hb hby d_method_3_59) (pc' := 61) rfl rfl rfl ?_
      refine gIconst X2 hx (v := (1 : Int32)) (hb hby d_method_3_61) (pc' := 62) rfl rfl ?_
      refine gLoadIN X2 hx (hb hby d_method_3_62) (pc' := 63) rfl rfl ?_
      refine gCastore X2 hx hZ e2 (x := c1) V2 (j := (1 : Int32)) (by decide) (by decide) 1 (by decide) (by simp) (hb hby d_method_3_63) (pc' := 64) rfl (fun T3 h3 X3 e3 W3 A3 => ?_)
      have S3 := s2_0
      have H3 := H2.trans (CHr.wr W3 S3 H2.1)
      have hk3 := Nat.le_trans hk2 (Nat.le_of_eq W3.size.symm)
      have s3_0 := Safe.wr W3 S3 H2.1 s2_0
      have f3_0 := f2_0.wr W3
      have zs3 : h0.size ≤ h3.size := by rw [W3.size]; exact zs2
      have N3 := Fr.snoc X3 N2 sz_b1
      have K3 : Keep h0 h3 [] := K2.wr W3 (Or.inr sz_b1)
      have V3 : Arv Z h3 b1 _ .char (2 : Int32) [(.int c0), (.int c1)] (.int (0 : Int32)) := (by have q := A3; rw [own_nc (own_c8 hc1)] at q; exact q)
      refine gNew X3 hx hZ hown (hw _ (List.mem_of_getElem? (i := 12) rfl)) (hw _ (List.mem_of_getElem? (i := 13) rfl)) (hw _ (List.mem_of_getElem? (i := 14) rfl)) e3 (hb hby d_method_3_64) (pc' := 67) rfl (by decide) (by decide) (fun T4 h4 b4 X4 e4 g4 E4 A4 D4 => ?_)
      have ne_b1_b4 : b1 ≠ b4 := Nat.ne_of_lt (Nat.lt_of_lt_of_eq V3.lt g4.symm)
      have H4 := H3.trans (CHr.ext E4 H3.1)
      have hk4 := Nat.le_trans hk3 E4.1
      have s4_0 := Safe.ext E4 H3.1 s3_0
      have s4_b := Safe.ext E4 H3.1 (Safe.new (Nat.le_of_eq g4.symm))
      have f4_0 := f3_0.ext E4
      have f4_1 := V3.ext E4
      have sz_b4 : h0.size ≤ b4 := Nat.le_trans zs3 (Nat.le_of_eq g4.symm)
      have zs4 : h0.size ≤ h4.size := Nat.le_trans zs3 E4.1
      have K4 : Keep h0 h4 [] := K3.ext E4
      have F4_coder : Fld Z h4 b4 "java/lang/String" "coder" "B" (.int (0 : Int32)) := D4 (Or.inr (hw _ (List.mem_of_getElem? (i := 38) rfl))) (ty := .byte) (by decide)
      have F4_value : Fld Z h4 b4 "java/lang/String" "value" "[B" .null := D4 (Or.inr (hw _ (List.mem_of_getElem? (i := 40) rfl))) (ty := (.array .byte)) (by decide)
      refine gDup X4 hx (hb hby d_method_3_67) (pc' := 68) rfl rfl ?_
      refine gLoadA X4 hx (hb hby d_method_3_68) (pc' := 70) rfl rfl rfl ?_
      refine gCallI X4 hx hZ (y := (⟨"java/lang/String", "<init>", "([C)V"⟩ : MethodName)) rfl hown e4 (by rw [hml]; rfl) (hw _ (List.mem_of_getElem? (i := 15) rfl)) (hw _ (List.mem_of_getElem? (i := 16) rfl)) (hw _ (List.mem_of_getElem? (i := 14) rfl)) (hw _ (List.mem_of_getElem? (i := 17) rfl)) (by decide) (argsL := [(.ref b1)]) (st := [(.ref b4)]) (c_sinit_2 l Z a0 hw b4 b1 _ h0.size c0 c1 h4 f4_0 sz_b4 zs4 ne_b1_b4 A4 F4_coder F4_value f4_1 hc0 hc1) (lenOf pd_14 rfl) (hb hby d_method_3_70) (pc' := 73) rfl rfl (by decide) (W := 1) (Nat.le_of_eq rfl) (by decide) (by decide) (by decide) ?_
      intro T5 v5 L5 X5 hQ5
      obtain ⟨t5, ct5, rfl, Nq5, Kq5, gt5, Eq5, Cq5, Vq5, Aq5⟩ := hQ5
      have N5 := Fr.app N3 Nq5
      have H5 := H4.trans (CHr.keep Kq5 (sfS s4_b sf0) H4.1)
      have hk5 := Nat.le_trans hk4 Kq5.1
      have s5_0 := Safe.keep Kq5 (sfS s4_b sf0) H4.1 s4_0
      have s5_1 := Safe.keep Kq5 (sfS s4_b sf0) H4.1 s4_b
      have f5_0 := own_cpt_keep f4_0 Kq5 (nsS (Exa.nostat A4) ns0)
      have f5_1 := f4_1.keep Kq5 (ninS ne_b1_b4 nin0)
      have f5_2 := A4.keep Kq5
      have zs5 := Nat.le_trans zs4 Kq5.1
      have K5 : Keep h0 T5.heap [] := K4.trans Kq5 (allS (Or.inr sz_b4) all0)
      exact gRetHA X5 hx hlk hret rfl rfl (hb hby d_method_3_73) rfl hS hk5 hZ hEL H5 (by decide) (by decide) (⟨b4, rfl, N5, K5, Eq5⟩)
    · refine gLoadIN X0 hx (hb hby d_method_3_44) (pc' := 45) rfl rfl ?_
      refine gCallS X0 hx hZ (y := (⟨"java/lang/String", "valueOf", "(C)Ljava/lang/String;"⟩ : MethodName)) hown e0 (by rw [hml]; rfl) (hw _ (List.mem_of_getElem? (i := 97) rfl)) (hw _ (List.mem_of_getElem? (i := 98) rfl)) (hw _ (List.mem_of_getElem? (i := 14) rfl)) (hw _ (List.mem_of_getElem? (i := 99) rfl)) (by decide) (argsL := [(.int c0)]) (st := []) (c_valueOf l Z a0 hw c0 h0 hCpt hc0) (lenOf pd_4 rfl) (hb hby d_method_3_45) (pc' := 48) rfl rfl (by decide) (W := 0) (Nat.le_of_eq rfl) (by decide) (by decide) (by decide) ?_
      intro T6 v6 L6 X6 hQ6
      obtain ⟨s6, rfl, Nq6, Kq6, Eq6⟩ := hQ6
      have N6 := Fr.app (Fr.nil h0.size) Nq6
      have H6 := H0.trans (CHr.keep Kq6 sf0 H0.1)
      have hk6 := Nat.le_trans (Nat.zero_le _) Kq6.1
      exact gRetHA X6 hx hlk hret rfl rfl (hb hby d_method_3_48) rfl hS hk6 hZ hEL H6 (by decide) (by decide) (⟨s6, rfl, N6, Kq6, Eq6⟩)
  · refine gNew X0 hx hZ hown (hw _ (List.mem_of_getElem? (i := 12) rfl)) (hw _ (List.mem_of_getElem? (i := 13) rfl)) (hw _ (List.mem_of_getElem? (i := 14) rfl)) e0 (hb hby d_method_3_28) (pc' := 31) rfl (by decide) (by decide) (fun T7 h7 b7 X7 e7 g7 E7 A7 D7 => ?_)
    have H7 := H0.trans (CHr.ext E7 H0.1)
    have hk7 := Nat.le_trans (Nat.zero_le _) E7.1
    have s7_b := Safe.ext E7 H0.1 (Safe.new (Nat.le_of_eq g7.symm))
    have f7_0 := hCpt.ext E7
    have sz_b7 : h0.size ≤ b7 := Nat.le_trans (Nat.le_refl _) (Nat.le_of_eq g7.symm)
    have zs7 : h0.size ≤ h7.size := Nat.le_trans (Nat.le_refl _) E7.1
    have K7 : Keep h0 h7 [] := (Keep.refl h0 []).ext E7
    have F7_coder : Fld Z h7 b7 "java/lang/String" "coder" "B" (.int (0 : Int32)) := D7 (Or.inr (hw _ (List.mem_of_getElem? (i := 38) rfl))) (ty := .byte) (by decide)
    have F7_value : Fld Z h7 b7 "java/lang/String" "value" "[B" .null := D7 (Or.inr (hw _ (List.mem_of_getElem? (i := 40) rfl))) (ty := (.array .byte)) (by decide)
    refine gDup X7 hx (hb hby d_method_3_31) (pc' := 32) rfl rfl ?_
    refine gIconst X7 hx (v := (0 : Int32)) (hb hby d_method_3_32) (pc' := 33) rfl rfl ?_
    refine gNewP X7 hx hZ (hw _ (List.mem_of_getElem? (i := 11) rfl)) e7 (n := (0 : Int32)) (hb hby d_method_3_33) (by decide) (cap := 0) (by decide) (by decide) (by decide) (by decide) 0 (pc' := 35) rfl (fun T8 h8 b8 ck8 X8 e8 g8 E8 A8 => ?_)
    have ne_b7_b8 : b7 ≠ b8 := Nat.ne_of_lt (Nat.lt_of_lt_of_eq A7.lt g8.symm)
    have H8 := H7.trans (CHr.ext E8 H7.1)
    have hk8 := Nat.le_trans hk7 E8.1
    have s8_0 := Safe.ext E8 H7.1 s7_b
    have s8_b := Safe.ext E8 H7.1 (Safe.new (Nat.le_of_eq g8.symm))
    have f8_0 := f7_0.ext E8
    have f8_1 := A7.ext E8
    have f8_2 := F7_coder.ext E8
    have f8_3 := F7_value.ext E8
    have sz_b8 : h0.size ≤ b8 := Nat.le_trans zs7 (Nat.le_of_eq g8.symm)
    have zs8 : h0.size ≤ h8.size := Nat.le_trans zs7 E8.1
    have K8 : Keep h0 h8 [] := K7.ext E8
    have V8 : Arv Z h8 b8 ck8 .char (0 : Int32) [] (.int (0 : Int32)) := A8
    refine gCallIH X8 hx hZ (y := (⟨"java/lang/String", "<init>", "([C)V"⟩ : MethodName)) rfl hown e8 (by rw [hml]; rfl) hS hk8 hEL H8 (hw _ (List.mem_of_getElem? (i := 15) rfl)) (hw _ (List.mem_of_getElem? (i := 16) rfl)) (hw _ (List.mem_of_getElem? (i := 14) rfl)) (hw _ (List.mem_of_getElem? (i := 17) rfl)) (by decide) (sl1 f8_1.lt s8_0) (argsL := [(.ref b8)]) (st := [(.ref b7)]) (c_sinit_0 l Z a0 hw b7 b8 _ h0.size h8 hEL sz_b7 f8_1 f8_2 f8_3 V8) (lenOf pd_14 rfl) (hb hby d_method_3_35) (pc' := 38) rfl rfl (by decide) (W := 1) (Nat.le_of_eq rfl) (by decide) (by decide) (by decide) ?_
    intro T9 v9 L9 X9 hS hZ hown C9 H9 hQ9
    have s9_0 := C9.safe f8_1.lt s8_0
    have s9_1 := C9.safe V8.lt s8_b
    obtain ⟨t9, ct9, rfl, Nq9, Kq9, Eq9, Cq9, Vq9, Aq9⟩ := hQ9
    have N9 := Fr.app (Fr.nil h0.size) Nq9
    have f9_0 := own_cpt_keep f8_0 Kq9 (nsS (Exa.nostat f8_1) ns0)
    have f9_1 := f8_1.keep Kq9
    have f9_4 := V8.keep Kq9 (ninS (Ne.symm ne_b7_b8) nin0)
    have zs9 := Nat.le_trans zs8 Kq9.1
    have K9 : Keep h0 T9.heap [] := K8.trans Kq9 (allS (Or.inr sz_b7) all0)
    exact gRetHA X9 hx hlk hret rfl rfl (hb hby d_method_3_38) rfl hS (Nat.le_refl _) hZ hEL H9 (by decide) (by decide) (⟨b7, rfl, N9, K9, Eq9⟩)
theorem d_jdk_30_method_1_0 : decode jdk_30_method_1_code 0 = .ok (.aload_n 0, 1) := by decide +kernel
theorem d_jdk_30_method_1_1 : decode jdk_30_method_1_code 1 = .ok (.invokespecial 1, 3) := by decide +kernel
theorem d_jdk_30_method_1_4 : decode jdk_30_method_1_code 4 = .ok (.return_, 1) := by decide +kernel
theorem pn_4 : plainName "java/lang/Record" = true := by first | (simp [plainName, overriddenIn]; done) | decide +kernel
theorem ef_c_rec (m : MethodId) (a : Addr) : entryFrame m #[(.ref a)] 1 = mkF m 0 #[.val (.ref a)] [] := by first | (simp [entryFrame, mkF, argsToLocals, Value.category]; done) | rfl
set_option maxRecDepth 65536 in
set_option maxHeartbeats 40000000 in
theorem c_rec (l : Launch) (Z : State) (a0 : Array Value) (hw : ∀ d ∈ tables_1, d.before a0 Z = true) (a : Addr) (h0 : Heap)  :
    Ctr l Z (⟨"java/lang/Record", "<init>", "()V"⟩ : MethodName) jdk_30_method_1_code 1 none [] ({ frames := 1, cells := 0, slots := 0, locals := 12 } : Room) #[(.ref a)] h0 (fun v h L => v = none ∧ h = h0 ∧ L = []) := by
  refine Ctr.of (plainFor_of_name pn_4) ?_
  intro p e s m below meth c s₁ hx hby hml hret hown hnm hZ hlk X0 e0
  refine Goes.cast (ef_c_rec m a) ?_
  refine gLoadAN X0 hx (hb hby d_jdk_30_method_1_0) (pc' := 1) rfl rfl rfl ?_
  refine gInitO X0 hx hZ hown (hw _ (List.mem_of_getElem? (i := 52) rfl)) (hw _ (List.mem_of_getElem? (i := 23) rfl)) (hw _ (List.mem_of_getElem? (i := 24) rfl)) e0 (by rw [hml]; rfl) (hb hby d_jdk_30_method_1_1) (pc' := 4) rfl (by decide) (W := 0) (Nat.le_of_eq rfl) (by decide) (fun T1 X1 e1 => ?_)
  exact gRetV X1 hx hlk hret (hb hby d_jdk_30_method_1_4) (by decide) (by decide) (⟨rfl, e1, rfl⟩)
theorem d_prog_16_method_1_0 : decode prog_16_method_1_code 0 = .ok (.aload_n 0, 1) := by decide +kernel
theorem d_prog_16_method_1_1 : decode prog_16_method_1_code 1 = .ok (.invokespecial 1, 3) := by decide +kernel
theorem pd_3 : parseMethodDescriptor "()V" = some ⟨[], none⟩ := by decide +kernel
theorem d_prog_16_method_1_4 : decode prog_16_method_1_code 4 = .ok (.aload_n 0, 1) := by decide +kernel
theorem d_prog_16_method_1_5 : decode prog_16_method_1_code 5 = .ok (.aload_n 1, 1) := by decide +kernel
theorem d_prog_16_method_1_6 : decode prog_16_method_1_code 6 = .ok (.putfield 7, 3) := by decide +kernel
theorem d_prog_16_method_1_9 : decode prog_16_method_1_code 9 = .ok (.aload_n 0, 1) := by decide +kernel
theorem d_prog_16_method_1_10 : decode prog_16_method_1_code 10 = .ok (.aload_n 2, 1) := by decide +kernel
theorem d_prog_16_method_1_11 : decode prog_16_method_1_code 11 = .ok (.putfield 13, 3) := by decide +kernel
theorem d_prog_16_method_1_14 : decode prog_16_method_1_code 14 = .ok (.aload_n 0, 1) := by decide +kernel
theorem d_prog_16_method_1_15 : decode prog_16_method_1_code 15 = .ok (.aload_n 3, 1) := by decide +kernel
theorem d_prog_16_method_1_16 : decode prog_16_method_1_code 16 = .ok (.putfield 17, 3) := by decide +kernel
theorem d_prog_16_method_1_19 : decode prog_16_method_1_code 19 = .ok (.aload_n 0, 1) := by decide +kernel
theorem d_prog_16_method_1_20 : decode prog_16_method_1_code 20 = .ok (.iload 4, 2) := by decide +kernel
theorem d_prog_16_method_1_22 : decode prog_16_method_1_code 22 = .ok (.putfield 20, 3) := by decide +kernel
theorem d_prog_16_method_1_25 : decode prog_16_method_1_code 25 = .ok (.return_, 1) := by decide +kernel
theorem pn_0 : plainName "com/example/clausewright/clausewright/contract/Unit" = true := by first | (simp [plainName, overriddenIn]; done) | decide +kernel
theorem ef_c_unit (m : MethodId) (a : Addr) (k : Addr) (sx : Addr) (tx : Addr) (p4 : Int32) : entryFrame m #[(.ref a), (.ref k), (.ref sx), (.ref tx), (.int p4)] 5 = mkF m 0 #[.val (.ref a), .val (.ref k), .val (.ref sx), .val (.ref tx), .val (.int p4)] [] := by first | (simp [entryFrame, mkF, argsToLocals, Value.category]; done) | rfl
set_option maxRecDepth 65536 in
set_option maxHeartbeats 40000000 in
theorem c_unit (l : Launch) (Z : State) (a0 : Array Value) (hw : ∀ d ∈ tables_1, d.before a0 Z = true) (a k sx tx : Addr) (p4 : Int32) (n0 : Nat) (h0 : Heap) (ga : n0 ≤ a) (E : Exa Z h0 a "com/example/clausewright/clausewright/contract/Unit") (F0 : Fld Z h0 a "com/example/clausewright/clausewright/contract/Unit" "kind" "Lcom/example/clausewright/clausewright/contract/UnitKind;" .null) (F1 : Fld Z h0 a "com/example/clausewright/clausewright/contract/Unit" "number" "Ljava/lang/String;" .null) (F2 : Fld Z h0 a "com/example/clausewright/clausewright/contract/Unit" "title" "Ljava/lang/String;" .null) (F3 : Fld Z h0 a "com/example/clausewright/clausewright/contract/Unit" "start" "I" (.int (0 : Int32))) :
    Ctr l Z (⟨"com/example/clausewright/clausewright/contract/Unit", "<init>", "(Lcom/example/clausewright/clausewright/contract/UnitKind;Ljava/lang/String;Ljava/lang/String;I)V"⟩ : MethodName) prog_16_method_1_code 5 none [] ({ frames := 2, cells := 0, slots := 0, locals := 24 } : Room) #[(.ref a), (.ref k), (.ref sx), (.ref tx), (.int p4)] h0 (fun v h L => v = none ∧ Fr n0 L ∧ Keep h0 h [a] ∧ Exa Z h a "com/example/clausewright/clausewright/contract/Unit" ∧ Fld Z h a "com/example/clausewright/clausewright/contract/Unit" "kind" "Lcom/example/clausewright/clausewright/contract/UnitKind;" (.ref k) ∧ Fld Z h a "com/example/clausewright/clausewright/contract/Unit" "number" "Ljava/lang/String;" (.ref sx)) := by
  refine Ctr.of (plainFor_of_name pn_0) ?_
  intro p e s m below meth c s₁ hx hby hml hret hown hnm hZ hlk X0 e0
  refine Goes.cast (ef_c_unit m a k sx tx p4) ?_
  refine gLoadAN X0 hx (hb hby d_prog_16_method_1_0) (pc' := 1) rfl rfl rfl ?_
  refine gCallI X0 hx hZ (y := (⟨"java/lang/Record", "<init>", "()V"⟩ : MethodName)) rfl hown e0 (by rw [hml]; rfl) (hw _ (List.mem_of_getElem? (i := 47) rfl)) (hw _ (List.mem_of_getElem? (i := 48) rfl)) (hw _ (List.mem_of_getElem? (i := 50) rfl)) (hw _ (List.mem_of_getElem? (i := 51) rfl)) (by decide) (argsL := []) (st := []) (c_rec l Z a0 hw a h0) (lenOf pd_3 rfl) (hb hby d_prog_16_method_1_1) (pc' := 4) rfl rfl (by decide) (W := 0) (Nat.le_of_eq rfl) (by decide) (by decide) (by decide) ?_
  intro T1 v1 L1 X1 hQ1
  obtain ⟨rfl, eq1, rfl⟩ := hQ1
  rw [List.append_nil] at X1
  refine gLoadAN X1 hx (hb hby d_prog_16_method_1_4) (pc' := 5) rfl rfl rfl ?_
  refine gLoadAN X1 hx (hb hby d_prog_16_method_1_5) (pc' := 6) rfl rfl rfl ?_
  refine gPutF X1 hx hZ hown (hw _ (List.mem_of_getElem? (i := 53) rfl)) Via.refl eq1 F0 E (Or.inr ⟨(hw _ (List.mem_of_getElem? (i := 54) rfl)), rfl, hnm⟩) (hw _ (List.mem_of_getElem? (i := 42) rfl)) (ty := (.object "com/example/clausewright/clausewright/contract/UnitKind")) (by decide) rfl rfl (hb hby d_prog_16_method_1_6) (pc' := 9) rfl (fun T2 h2 X2 e2 W2 => ?_)
  have f2_0 := E.wr W2
  have f2_1 := F0.same W2
  have f2_2 := F1.other W2 (Or.inr (slot_ne (Or.inr (hw _ (List.mem_of_getElem? (i := 56) rfl))) (Or.inr (hw _ (List.mem_of_getElem? (i := 54) rfl))) (by decide) (t := (.object "java/lang/String")) (t' := (.object "com/example/clausewright/clausewright/contract/UnitKind")) (by decide) (by decide)))
  have f2_3 := F2.other W2 (Or.inr (slot_ne (Or.inr (hw _ (List.mem_of_getElem? (i := 58) rfl))) (Or.inr (hw _ (List.mem_of_getElem? (i := 54) rfl))) (by decide) (t := (.object "java/lang/String")) (t' := (.object "com/example/clausewright/clausewright/contract/UnitKind")) (by decide) (by decide)))
  have f2_4 := F3.other W2 (Or.inr (slot_ne (Or.inr (hw _ (List.mem_of_getElem? (i := 60) rfl))) (Or.inr (hw _ (List.mem_of_getElem? (i := 54) rfl))) (by decide) (t := .int) (t' := (.object "com/example/clausewright/clausewright/contract/UnitKind")) (by decide) (by decide)))
  have zs2 : h0.size ≤ h2.size := by rw [W2.size]; exact (Nat.le_refl _)
  have N2 := Fr.snoc X2 (Fr.nil n0) ga
  have K2 : Keep h0 h2 [a] := (Keep.refl h0 [a]).wr W2 (Or.inl (by simp))
  refine gLoadAN X2 hx (hb hby d_prog_16_method_1_9) (pc' := 10) rfl rfl rfl ?_
  refine gLoadAN X2 hx (hb hby d_prog_16_method_1_10) (pc' := 11) rfl rfl rfl ?_
  refine gPutF X2 hx hZ hown (hw _ (List.mem_of_getElem? (i := 55) rfl)) Via.refl e2 f2_2 f2_0 (Or.inr ⟨(hw _ (List.mem_of_getElem? (i := 56) rfl)), rfl, hnm⟩) (hw _ (List.mem_of_getElem? (i := 42) rfl)) (ty := (.object "java/lang/String")) (by decide) rfl rfl (hb hby d_prog_16_method_1_11) (pc' := 14) rfl (fun T3 h3 X3 e3 W3 => ?_)
  have f3_0 := f2_0.wr W3
  have f3_1 := f2_1.other W3 (Or.inr (slot_ne (Or.inr (hw _ (List.mem_of_getElem? (i := 54) rfl))) (Or.inr (hw _ (List.mem_of_getElem? (i := 56) rfl))) (by decide) (t := (.object "com/example/clausewright/clausewright/contract/UnitKind")) (t' := (.object "java/lang/String")) (by decide) (by decide)))
  have f3_2 := f2_2.same W3
  have f3_3 := f2_3.other W3 (Or.inr (slot_ne (Or.inr (hw _ (List.mem_of_getElem? (i := 58) rfl))) (Or.inr (hw _ (List.mem_of_getElem? (i := 56) rfl))) (by decide) (t := (.object "java/lang/String")) (t' := (.object "java/lang/String")) (by decide) (by decide)))
  have f3_4 := f2_4.other W3 (Or.inr (slot_ne (Or.inr (hw _ (List.mem_of_getElem? (i := 60) rfl))) (Or.inr (hw _ (List.mem_of_getElem? (i := 56) rfl))) (by decide) (t := .int) (t' := (.object "java/lang/String")) (by decide) (by decide)))
  have zs3 : h0.size ≤ h3.size := by rw [W3.size]; exact zs2
  have N3 := Fr.snoc X3 N2 ga
  have K3 : Keep h0 h3 [a] := K2.wr W3 (Or.inl (by simp))
  refine gLoadAN X3 hx (hb hby d_prog_16_method_1_14) (pc' := 15) rfl rfl rfl ?_
  refine gLoadAN X3 hx (hb hby d_prog_16_method_1_15) (pc' := 16) rfl rfl rfl ?_
  refine gPutF X3 hx hZ hown (hw _ (List.mem_of_getElem? (i := 57) rfl)) Via.refl e3 f3_3 f3_0 (Or.inr ⟨(hw _ (List.mem_of_getElem? (i := 58) rfl)), rfl, hnm⟩) (hw _ (List.mem_of_getElem? (i := 42) rfl)) (ty := (.object "java/lang/String")) (by decide) rfl rfl (hb hby d_prog_16_method_1_16) (pc' := 19) rfl (fun T4 h4 X4 e4 W4 => ?_)
  have f4_0 := f3_0.wr W4
  have f4_1 := f3_1.other W4 (Or.inr (slot_ne (Or.inr (hw _ (List.mem_of_getElem? (i := 54) rfl))) (Or.inr (hw _ (List.mem_of_getElem? (i := 58) rfl))) (by decide) (t := (.object "com/example/clausewright/clausewright/contract/UnitKind")) (t' := (.object "java/lang/String")) (by decide) (by decide)))
  have f4_2 := f3_2.other W4 (Or.inr (slot_ne (Or.inr (hw _ (List.mem_of_getElem? (i := 56) rfl))) (Or.inr (hw _ (List.mem_of_getElem? (i := 58) rfl))) (by decide) (t := (.object "java/lang/String")) (t' := (.object "java/lang/String")) (by decide) (by decide)))
  have f4_3 := f3_3.same W4
  have f4_4 := f3_4.other W4 (Or.inr (slot_ne (Or.inr (hw _ (List.mem_of_getElem? (i := 60) rfl))) (Or.inr (hw _ (List.mem_of_getElem? (i := 58) rfl))) (by decide) (t := .int) (t' := (.object "java/lang/String")) (by decide) (by decide)))
  have zs4 : h0.size ≤ h4.size := by rw [W4.size]; exact zs3
  have N4 := Fr.snoc X4 N3 ga
  have K4 : Keep h0 h4 [a] := K3.wr W4 (Or.inl (by simp))
  refine gLoadAN X4 hx (hb hby d_prog_16_method_1_19) (pc' := 20) rfl rfl rfl ?_
  refine gLoadI X4 hx (hb hby d_prog_16_method_1_20) (pc' := 22) rfl rfl ?_
  refine gPutF X4 hx hZ hown (hw _ (List.mem_of_getElem? (i := 59) rfl)) Via.refl e4 f4_4 f4_0 (Or.inr ⟨(hw _ (List.mem_of_getElem? (i := 60) rfl)), rfl, hnm⟩) (hw _ (List.mem_of_getElem? (i := 42) rfl)) (ty := .int) (by decide) rfl rfl (hb hby d_prog_16_method_1_22) (pc' := 25) rfl (fun T5 h5 X5 e5 W5 => ?_)
  have f5_0 := f4_0.wr W5
  have f5_1 := f4_1.other W5 (Or.inr (slot_ne (Or.inr (hw _ (List.mem_of_getElem? (i := 54) rfl))) (Or.inr (hw _ (List.mem_of_getElem? (i := 60) rfl))) (by decide) (t := (.object "com/example/clausewright/clausewright/contract/UnitKind")) (t' := .int) (by decide) (by decide)))
  have f5_2 := f4_2.other W5 (Or.inr (slot_ne (Or.inr (hw _ (List.mem_of_getElem? (i := 56) rfl))) (Or.inr (hw _ (List.mem_of_getElem? (i := 60) rfl))) (by decide) (t := (.object "java/lang/String")) (t' := .int) (by decide) (by decide)))
  have f5_3 := f4_3.other W5 (Or.inr (slot_ne (Or.inr (hw _ (List.mem_of_getElem? (i := 58) rfl))) (Or.inr (hw _ (List.mem_of_getElem? (i := 60) rfl))) (by decide) (t := (.object "java/lang/String")) (t' := .int) (by decide) (by decide)))
  have f5_4 := f4_4.same W5
  have zs5 : h0.size ≤ h5.size := by rw [W5.size]; exact zs4
  have N5 := Fr.snoc X5 N4 ga
  have K5 : Keep h0 h5 [a] := K4.wr W5 (Or.inl (by simp))
  exact gRetV X5 hx hlk hret (hb hby d_prog_16_method_1_25) (by decide) (by decide) (⟨rfl, N5, by rw [e5]; exact K5, by rw [e5]; exact f5_0, by rw [e5]; exact f5_1, by rw [e5]; exact f5_2⟩)
theorem d_prog_17_method_1_0 : decode prog_17_method_1_code 0 = .ok (.aload_n 0, 1) := by decide +kernel
theorem d_prog_17_method_1_1 : decode prog_17_method_1_code 1 = .ok (.invokespecial 1, 3) := by decide +kernel
theorem d_prog_17_method_1_4 : decode prog_17_method_1_code 4 = .ok (.aload_n 0, 1) := by decide +kernel
theorem d_prog_17_method_1_5 : decode prog_17_method_1_code 5 = .ok (.aload_n 1, 1) := by decide +kernel
theorem d_prog_17_method_1_6 : decode prog_17_method_1_code 6 = .ok (.putfield 7, 3) := by decide +kernel
theorem d_prog_17_method_1_9 : decode prog_17_method_1_code 9 = .ok (.aload_n 0, 1) := by decide +kernel
theorem d_prog_17_method_1_10 : decode prog_17_method_1_code 10 = .ok (.aload_n 2, 1) := by decide +kernel
theorem d_prog_17_method_1_11 : decode prog_17_method_1_code 11 = .ok (.putfield 13, 3) := by decide +kernel
theorem d_prog_17_method_1_14 : decode prog_17_method_1_code 14 = .ok (.return_, 1) := by decide +kernel
theorem pn_1 : plainName "com/example/clausewright/clausewright/contract/UnitKey" = true := by first | (simp [plainName, overriddenIn]; done) | decide +kernel
theorem ef_c_ukey (m : MethodId) (a : Addr) (k : Addr) (sx : Addr) : entryFrame m #[(.ref a), (.ref k), (.ref sx)] 3 = mkF m 0 #[.val (.ref a), .val (.ref k), .val (.ref sx)] [] := by first | (simp [entryFrame, mkF, argsToLocals, Value.category]; done) | rfl
set_option maxRecDepth 65536 in
set_option maxHeartbeats 40000000 in
theorem c_ukey (l : Launch) (Z : State) (a0 : Array Value) (hw : ∀ d ∈ tables_1, d.before a0 Z = true) (a k sx : Addr) (n0 : Nat) (h0 : Heap) (ga : n0 ≤ a) (E : Exa Z h0 a "com/example/clausewright/clausewright/contract/UnitKey") (F0 : Fld Z h0 a "com/example/clausewright/clausewright/contract/UnitKey" "kind" "Lcom/example/clausewright/clausewright/contract/UnitKind;" .null) (F1 : Fld Z h0 a "com/example/clausewright/clausewright/contract/UnitKey" "number" "Ljava/lang/String;" .null) :
    Ctr l Z (⟨"com/example/clausewright/clausewright/contract/UnitKey", "<init>", "(Lcom/example/clausewright/clausewright/contract/UnitKind;Ljava/lang/String;)V"⟩ : MethodName) prog_17_method_1_code 3 none [] ({ frames := 2, cells := 0, slots := 0, locals := 24 } : Room) #[(.ref a), (.ref k), (.ref sx)] h0 (fun v h L => v = none ∧ Fr n0 L ∧ Keep h0 h [a] ∧ Exa Z h a "com/example/clausewright/clausewright/contract/UnitKey" ∧ Fld Z h a "com/example/clausewright/clausewright/contract/UnitKey" "kind" "Lcom/example/clausewright/clausewright/contract/UnitKind;" (.ref k) ∧ Fld Z h a "com/example/clausewright/clausewright/contract/UnitKey" "number" "Ljava/lang/String;" (.ref sx)) := by
  refine Ctr.of (plainFor_of_name pn_1) ?_
  intro p e s m below meth c s₁ hx hby hml hret hown hnm hZ hlk X0 e0
  refine Goes.cast (ef_c_ukey m a k sx) ?_
  refine gLoadAN X0 hx (hb hby d_prog_17_method_1_0) (pc' := 1) rfl rfl rfl ?_
  refine gCallI X0 hx hZ (y := (⟨"java/lang/Record", "<init>", "()V"⟩ : MethodName)) rfl hown e0 (by rw [hml]; rfl) (hw _ (List.mem_of_getElem? (i := 72) rfl)) (hw _ (List.mem_of_getElem? (i := 48) rfl)) (hw _ (List.mem_of_getElem? (i := 50) rfl)) (hw _ (List.mem_of_getElem? (i := 51) rfl)) (by decide) (argsL := []) (st := []) (c_rec l Z a0 hw a h0) (lenOf pd_3 rfl) (hb hby d_prog_17_method_1_1) (pc' := 4) rfl rfl (by decide) (W := 0) (Nat.le_of_eq rfl) (by decide) (by decide) (by decide) ?_
  intro T1 v1 L1 X1 hQ1
  obtain ⟨rfl, eq1, rfl⟩ := hQ1
  rw [List.append_nil] at X1
  refine gLoadAN X1 hx (hb hby d_prog_17_method_1_4) (pc' := 5) rfl rfl rfl ?_
  refine gLoadAN X1 hx (hb hby d_prog_17_method_1_5) (pc' := 6) rfl rfl rfl ?_
  refine gPutF X1 hx hZ hown (hw _ (List.mem_of_getElem? (i := 73) rfl)) Via.refl eq1 F0 E (Or.inr ⟨(hw _ (List.mem_of_getElem? (i := 74) rfl)), rfl, hnm⟩) (hw _ (List.mem_of_getElem? (i := 67) rfl)) (ty := (.object "com/example/clausewright/clausewright/contract/UnitKind")) (by decide) rfl rfl (hb hby d_prog_17_method_1_6) (pc' := 9) rfl (fun T2 h2 X2 e2 W2 => ?_)
  have f2_0 := E.wr W2
  have f2_1 := F0.same W2
  have f2_2 := F1.other W2 (Or.inr (slot_ne (Or.inr (hw _ (List.mem_of_getElem? (i := 76) rfl))) (Or.inr (hw _ (List.mem_of_getElem? (i := 74) rfl))) (by decide) (t := (.object "java/lang/String")) (t' := (.object "com/example/clausewright/clausewright/contract/UnitKind")) (by decide) (by decide)))
  have zs2 : h0.size ≤ h2.size := by rw [W2.size]; exact (Nat.le_refl _)
  have N2 := Fr.snoc X2 (Fr.nil n0) ga
  have K2 : Keep h0 h2 [a] := (Keep.refl h0 [a]).wr W2 (Or.inl (by simp))
  refine gLoadAN X2 hx (hb hby d_prog_17_method_1_9) (pc' := 10) rfl rfl rfl ?_
  refine gLoadAN X2 hx (hb hby d_prog_17_method_1_10) (pc' := 11) rfl rfl rfl ?_
  refine gPutF X2 hx hZ hown (hw _ (List.mem_of_getElem? (i := 75) rfl)) Via.refl e2 f2_2 f2_0 (Or.inr ⟨(hw _ (List.mem_of_getElem? (i := 76) rfl)), rfl, hnm⟩) (hw _ (List.mem_of_getElem? (i := 67) rfl)) (ty := (.object "java/lang/String")) (by decide) rfl rfl (hb hby d_prog_17_method_1_11) (pc' := 14) rfl (fun T3 h3 X3 e3 W3 => ?_)
  have f3_0 := f2_0.wr W3
  have f3_1 := f2_1.other W3 (Or.inr (slot_ne (Or.inr (hw _ (List.mem_of_getElem? (i := 74) rfl))) (Or.inr (hw _ (List.mem_of_getElem? (i := 76) rfl))) (by decide) (t := (.object "com/example/clausewright/clausewright/contract/UnitKind")) (t' := (.object "java/lang/String")) (by decide) (by decide)))
  have f3_2 := f2_2.same W3
  have zs3 : h0.size ≤ h3.size := by rw [W3.size]; exact zs2
  have N3 := Fr.snoc X3 N2 ga
  have K3 : Keep h0 h3 [a] := K2.wr W3 (Or.inl (by simp))
  exact gRetV X3 hx hlk hret (hb hby d_prog_17_method_1_14) (by decide) (by decide) (⟨rfl, N3, by rw [e3]; exact K3, by rw [e3]; exact f3_0, by rw [e3]; exact f3_1, by rw [e3]; exact f3_2⟩)
theorem d_prog_16_method_2_0 : decode prog_16_method_2_code 0 = .ok (.new 24, 3) := by decide +kernel
theorem d_prog_16_method_2_3 : decode prog_16_method_2_code 3 = .ok (.dup, 1) := by decide +kernel
theorem d_prog_16_method_2_4 : decode prog_16_method_2_code 4 = .ok (.aload_n 0, 1) := by decide +kernel
theorem d_prog_16_method_2_5 : decode prog_16_method_2_code 5 = .ok (.getfield 7, 3) := by decide +kernel
theorem d_prog_16_method_2_8 : decode prog_16_method_2_code 8 = .ok (.aload_n 0, 1) := by decide +kernel
theorem d_prog_16_method_2_9 : decode prog_16_method_2_code 9 = .ok (.getfield 13, 3) := by decide +kernel
theorem d_prog_16_method_2_12 : decode prog_16_method_2_code 12 = .ok (.invokespecial 26, 3) := by decide +kernel
theorem pd_9 : parseMethodDescriptor "(Lcom/example/clausewright/clausewright/contract/UnitKind;Ljava/lang/String;)V" = some ⟨[(.object "com/example/clausewright/clausewright/contract/UnitKind"), (.object "java/lang/String")], none⟩ := by decide +kernel
theorem d_prog_16_method_2_15 : decode prog_16_method_2_code 15 = .ok (.areturn, 1) := by decide +kernel
theorem ef_c_key (m : MethodId) (u : Addr) : entryFrame m #[(.ref u)] 1 = mkF m 0 #[.val (.ref u)] [] := by first | (simp [entryFrame, mkF, argsToLocals, Value.category]; done) | rfl
set_option maxRecDepth 65536 in
set_option maxHeartbeats 40000000 in
theorem c_key (l : Launch) (Z : State) (a0 : Array Value) (hw : ∀ d ∈ tables_1, d.before a0 Z = true) (u k sx : Addr) (h0 : Heap) (F0 : Fld Z h0 u "com/example/clausewright/clausewright/contract/Unit" "kind" "Lcom/example/clausewright/clausewright/contract/UnitKind;" (.ref k)) (F1 : Fld Z h0 u "com/example/clausewright/clausewright/contract/Unit" "number" "Ljava/lang/String;" (.ref sx)) :
    Ctr l Z (⟨"com/example/clausewright/clausewright/contract/Unit", "key", "()Lcom/example/clausewright/clausewright/contract/UnitKey;"⟩ : MethodName) prog_16_method_2_code 1 (some (.object "com/example/clausewright/clausewright/contract/UnitKey")) [] ({ frames := 3, cells := 1, slots := 2, locals := 40 } : Room) #[(.ref u)] h0 (fun v h L => ∃ q : Addr, v = some (.ref q) ∧ Fr h0.size L ∧ Keep h0 h [] ∧ Exa Z h q "com/example/clausewright/clausewright/contract/UnitKey" ∧ Fld Z h q "com/example/clausewright/clausewright/contract/UnitKey" "kind" "Lcom/example/clausewright/clausewright/contract/UnitKind;" (.ref k) ∧ Fld Z h q "com/example/clausewright/clausewright/contract/UnitKey" "number" "Ljava/lang/String;" (.ref sx)) := by
  refine Ctr.of (plainFor_of_name pn_0) ?_
  intro p e s m below meth c s₁ hx hby hml hret hown hnm hZ hlk X0 e0
  refine Goes.cast (ef_c_key m u) ?_
  refine gNew X0 hx hZ hown (hw _ (List.mem_of_getElem? (i := 66) rfl)) (hw _ (List.mem_of_getElem? (i := 67) rfl)) (hw _ (List.mem_of_getElem? (i := 68) rfl)) e0 (hb hby d_prog_16_method_2_0) (pc' := 3) rfl (by decide) (by decide) (fun T1 h1 b1 X1 e1 g1 E1 A1 D1 => ?_)
  have ne_u_b1 : u ≠ b1 := Nat.ne_of_lt (Nat.lt_of_lt_of_eq F0.lt g1.symm)
  have f1_0 := F0.ext E1
  have f1_1 := F1.ext E1
  have sz_b1 : h0.size ≤ b1 := Nat.le_trans (Nat.le_refl _) (Nat.le_of_eq g1.symm)
  have zs1 : h0.size ≤ h1.size := Nat.le_trans (Nat.le_refl _) E1.1
  have K1 : Keep h0 h1 [] := (Keep.refl h0 []).ext E1
  have F1_kind : Fld Z h1 b1 "com/example/clausewright/clausewright/contract/UnitKey" "kind" "Lcom/example/clausewright/clausewright/contract/UnitKind;" .null := D1 (Or.inr (hw _ (List.mem_of_getElem? (i := 74) rfl))) (ty := (.object "com/example/clausewright/clausewright/contract/UnitKind")) (by decide)
  have F1_number : Fld Z h1 b1 "com/example/clausewright/clausewright/contract/UnitKey" "number" "Ljava/lang/String;" .null := D1 (Or.inr (hw _ (List.mem_of_getElem? (i := 76) rfl))) (ty := (.object "java/lang/String")) (by decide)
  refine gDup X1 hx (hb hby d_prog_16_method_2_3) (pc' := 4) rfl rfl ?_
  refine gLoadAN X1 hx (hb hby d_prog_16_method_2_4) (pc' := 5) rfl rfl rfl ?_
  refine gGetF X1 hx hZ hown (hw _ (List.mem_of_getElem? (i := 53) rfl)) Via.refl e1 f1_0 (hb hby d_prog_16_method_2_5) (pc' := 8) rfl (fun T2 X2 e2 => ?_)
  refine gLoadAN X2 hx (hb hby d_prog_16_method_2_8) (pc' := 9) rfl rfl rfl ?_
  refine gGetF X2 hx hZ hown (hw _ (List.mem_of_getElem? (i := 55) rfl)) Via.refl e2 f1_1 (hb hby d_prog_16_method_2_9) (pc' := 12) rfl (fun T3 X3 e3 => ?_)
  refine gCallI X3 hx hZ (y := (⟨"com/example/clausewright/clausewright/contract/UnitKey", "<init>", "(Lcom/example/clausewright/clausewright/contract/UnitKind;Ljava/lang/String;)V"⟩ : MethodName)) rfl hown e3 (by rw [hml]; rfl) (hw _ (List.mem_of_getElem? (i := 69) rfl)) (hw _ (List.mem_of_getElem? (i := 70) rfl)) (hw _ (List.mem_of_getElem? (i := 68) rfl)) (hw _ (List.mem_of_getElem? (i := 71) rfl)) (by decide) (argsL := [(.ref k), (.ref sx)]) (st := [(.ref b1)]) (c_ukey l Z a0 hw b1 k sx h0.size h1 sz_b1 A1 F1_kind F1_number) (lenOf pd_9 rfl) (hb hby d_prog_16_method_2_12) (pc' := 15) rfl rfl (by decide) (W := 1) (Nat.le_of_eq rfl) (by decide) (by decide) (by decide) ?_
  intro T4 v4 L4 X4 hQ4
  obtain ⟨rfl, Nq4, Kq4, Eq4, Fa4, Fb4⟩ := hQ4
  have N4 := Fr.app (Fr.nil h0.size) Nq4
  have K4 : Keep h0 T4.heap [] := K1.trans Kq4 (allS (Or.inr sz_b1) all0)
  exact gRetA X4 hx hlk hret rfl rfl (hb hby d_prog_16_method_2_15) (by decide) (by decide) (⟨b1, rfl, N4, K4, Eq4, Fa4, Fb4⟩)
theorem d_prog_17_method_6_0 : decode prog_17_method_6_code 0 = .ok (.aload_n 0, 1) := by decide +kernel
theorem d_prog_17_method_6_1 : decode prog_17_method_6_code 1 = .ok (.getfield 7, 3) := by decide +kernel
theorem d_prog_17_method_6_4 : decode prog_17_method_6_code 4 = .ok (.areturn, 1) := by decide +kernel
theorem ef_c_kind (m : MethodId) (q : Addr) : entryFrame m #[(.ref q)] 1 = mkF m 0 #[.val (.ref q)] [] := by first | (simp [entryFrame, mkF, argsToLocals, Value.category]; done) | rfl
set_option maxRecDepth 65536 in
set_option maxHeartbeats 40000000 in
theorem c_kind (l : Launch) (Z : State) (a0 : Array Value) (hw : ∀ d ∈ tables_1, d.before a0 Z = true) (q k : Addr) (h0 : Heap) (F0 : Fld Z h0 q "com/example/clausewright/clausewright/contract/UnitKey" "kind" "Lcom/example/clausewright/clausewright/contract/UnitKind;" (.ref k)) :
    Ctr l Z (⟨"com/example/clausewright/clausewright/contract/UnitKey", "kind", "()Lcom/example/clausewright/clausewright/contract/UnitKind;"⟩ : MethodName) prog_17_method_6_code 1 (some (.object "com/example/clausewright/clausewright/contract/UnitKind")) [] ({ frames := 0, cells := 0, slots := 0, locals := 0 } : Room) #[(.ref q)] h0 (Just h0 (.ref k)) := by
  refine Ctr.of (plainFor_of_name pn_1) ?_
  intro p e s m below meth c s₁ hx hby hml hret hown hnm hZ hlk X0 e0
  refine Goes.cast (ef_c_kind m q) ?_
  refine gLoadAN X0 hx (hb hby d_prog_17_method_6_0) (pc' := 1) rfl rfl rfl ?_
  refine gGetF X0 hx hZ hown (hw _ (List.mem_of_getElem? (i := 73) rfl)) Via.refl e0 F0 (hb hby d_prog_17_method_6_1) (pc' := 4) rfl (fun T1 X1 e1 => ?_)
  exact gRetA X1 hx hlk hret rfl rfl (hb hby d_prog_17_method_6_4) (by decide) (by decide) (⟨rfl, e1, rfl⟩)
theorem d_prog_17_method_7_0 : decode prog_17_method_7_code 0 = .ok (.aload_n 0, 1) := by decide +kernel
theorem d_prog_17_method_7_1 : decode prog_17_method_7_code 1 = .ok (.getfield 13, 3) := by decide +kernel
theorem d_prog_17_method_7_4 : decode prog_17_method_7_code 4 = .ok (.areturn, 1) := by decide +kernel
theorem ef_c_num (m : MethodId) (q : Addr) : entryFrame m #[(.ref q)] 1 = mkF m 0 #[.val (.ref q)] [] := by first | (simp [entryFrame, mkF, argsToLocals, Value.category]; done) | rfl
set_option maxRecDepth 65536 in
set_option maxHeartbeats 40000000 in
theorem c_num (l : Launch) (Z : State) (a0 : Array Value) (hw : ∀ d ∈ tables_1, d.before a0 Z = true) (q k : Addr) (h0 : Heap) (F0 : Fld Z h0 q "com/example/clausewright/clausewright/contract/UnitKey" "number" "Ljava/lang/String;" (.ref k)) :
    Ctr l Z (⟨"com/example/clausewright/clausewright/contract/UnitKey", "number", "()Ljava/lang/String;"⟩ : MethodName) prog_17_method_7_code 1 (some (.object "java/lang/String")) [] ({ frames := 0, cells := 0, slots := 0, locals := 0 } : Room) #[(.ref q)] h0 (Just h0 (.ref k)) := by
  refine Ctr.of (plainFor_of_name pn_1) ?_
  intro p e s m below meth c s₁ hx hby hml hret hown hnm hZ hlk X0 e0
  refine Goes.cast (ef_c_num m q) ?_
  refine gLoadAN X0 hx (hb hby d_prog_17_method_7_0) (pc' := 1) rfl rfl rfl ?_
  refine gGetF X0 hx hZ hown (hw _ (List.mem_of_getElem? (i := 75) rfl)) Via.refl e0 F0 (hb hby d_prog_17_method_7_1) (pc' := 4) rfl (fun T1 X1 e1 => ?_)
  exact gRetA X1 hx hlk hret rfl rfl (hb hby d_prog_17_method_7_4) (by decide) (by decide) (⟨rfl, e1, rfl⟩)
theorem d_jdk_42_method_66_0 : decode jdk_42_method_66_code 0 = .ok (.aload_n 0, 1) := by decide +kernel
theorem d_jdk_42_method_66_1 : decode jdk_42_method_66_code 1 = .ok (.aload_n 1, 1) := by decide +kernel
theorem d_jdk_42_method_66_2 : decode jdk_42_method_66_code 2 = .ok (.if_acmp .ne 5, 3) := by decide +kernel
theorem d_jdk_42_method_66_5 : decode jdk_42_method_66_code 5 = .ok (.iconst 1, 1) := by decide +kernel
theorem d_jdk_42_method_66_6 : decode jdk_42_method_66_code 6 = .ok (.ireturn, 1) := by decide +kernel
theorem ef_c_eqself (m : MethodId) (a : Addr) : entryFrame m #[(.ref a), (.ref a)] 3 = mkF m 0 #[.val (.ref a), .val (.ref a), .unset] [] := by first | (simp [entryFrame, mkF, argsToLocals, Value.category]; done) | rfl
set_option maxRecDepth 65536 in
set_option maxHeartbeats 40000000 in
theorem c_eqself (l : Launch) (Z : State) (a0 : Array Value) (hw : ∀ d ∈ tables_1, d.before a0 Z = true) (a : Addr) (h0 : Heap)  :
    Ctr l Z (⟨"java/lang/String", "equals", "(Ljava/lang/Object;)Z"⟩ : MethodName) jdk_42_method_66_code 3 (some .boolean) [] ({ frames := 0, cells := 0, slots := 0, locals := 0 } : Room) #[(.ref a), (.ref a)] h0 (Just h0 (.int 1)) := by
  refine Ctr.of (plainFor_of_name pn_5) ?_
  intro p e s m below meth c s₁ hx hby hml hret hown hnm hZ hlk X0 e0
  refine Goes.cast (ef_c_eqself m a) ?_
  refine gLoadAN X0 hx (hb hby d_jdk_42_method_66_0) (pc' := 1) rfl rfl rfl ?_
  refine gLoadAN X0 hx (hb hby d_jdk_42_method_66_1) (pc' := 2) rfl rfl rfl ?_
  refine gAcmpNe X0 hx (hb hby d_jdk_42_method_66_2) rfl rfl (pc' := 7) (by decide) (by decide) (pn := 5) rfl (fun (c2 : ¬ (Value.ref a) = (.ref a)) => ?_) (fun (c2 : (Value.ref a) = (.ref a)) => ?_)
  · exact absurd rfl c2
  · refine gIconst X0 hx (v := (1 : Int32)) (hb hby d_jdk_42_method_66_5) (pc' := 6) rfl rfl ?_
    exact gRetN X0 hx hlk hret (by simp) (hb hby d_jdk_42_method_66_6) (w := (1 : Int32)) rfl (by decide) (by decide) (⟨rfl, e0, rfl⟩)
theorem pd_7 : parseMethodDescriptor "(I)Lcom/example/clausewright/clausewright/contract/UnitKind;" = some ⟨[.int], some (.object "com/example/clausewright/clausewright/contract/UnitKind")⟩ := by decide +kernel
theorem pd_8 : parseMethodDescriptor "(I)Ljava/lang/String;" = some ⟨[.int], some (.object "java/lang/String")⟩ := by decide +kernel
theorem pd_10 : parseMethodDescriptor "(Lcom/example/clausewright/clausewright/contract/UnitKind;Ljava/lang/String;Ljava/lang/String;I)V" = some ⟨[(.object "com/example/clausewright/clausewright/contract/UnitKind"), (.object "java/lang/String"), (.object "java/lang/String"), .int], none⟩ := by decide +kernel
theorem pd_0 : parseMethodDescriptor "()Lcom/example/clausewright/clausewright/contract/UnitKey;" = some ⟨[], some (.object "com/example/clausewright/clausewright/contract/UnitKey")⟩ := by decide +kernel
theorem pd_1 : parseMethodDescriptor "()Lcom/example/clausewright/clausewright/contract/UnitKind;" = some ⟨[], some (.object "com/example/clausewright/clausewright/contract/UnitKind")⟩ := by decide +kernel
theorem pd_2 : parseMethodDescriptor "()Ljava/lang/String;" = some ⟨[], some (.object "java/lang/String")⟩ := by decide +kernel
theorem pd_11 : parseMethodDescriptor "(Ljava/lang/Object;)Z" = some ⟨[(.object "java/lang/Object")], some .boolean⟩ := by decide +kernel
theorem ef_c_law (m : MethodId) (p0 : Int32) (p1 : Int32) (p2 : Int32) (p3 : Int32) : entryFrame m #[(.int p0), (.int p1), (.int p2), (.int p3)] 9 = mkF m 0 #[.val (.int p0), .val (.int p1), .val (.int p2), .val (.int p3), .unset, .unset, .unset, .unset, .unset] [] := by first | (simp [entryFrame, mkF, argsToLocals, Value.category]; done) | rfl
set_option maxRecDepth 65536 in
set_option maxHeartbeats 40000000 in
theorem c_law (l : Launch) (Z : State) (a0 : Array Value) (hw : ∀ d ∈ tables_1, d.before a0 Z = true) (p0 p1 p2 p3 : Int32) (a_ARTICLE a_SECTION a_EXHIBIT : Addr) (h0 : Heap) (hEL : EW Z a0 [("java/lang/String", 7)]) (hCpt : Cpt Z h0) (hK : Known Z h0 a_ARTICLE a_SECTION a_EXHIBIT) :
    CtrH l Z [("java/lang/String", 7)] [] x code maxLocals ret tables_1 room_1 #[(.int p0), (.int p1), (.int p2), (.int p3)] h0 (Law1 h0) := by
  refine CtrH.of (plainFor_of_name pn_2) ?_
  intro p e s m below meth c s₁ hx hby hml hret hown hnm hZ hlk X0 e0 hS H0 hSafe
  replace hml : c.maxLocals = 9 := hml
  refine Goes.cast (ef_c_law m p0 p1 p2 p3) ?_
  have hK' := hK
  obtain ⟨S_ARTICLE, S_SECTION, S_EXHIBIT, E_ARTICLE, E_SECTION, E_EXHIBIT⟩ := hK'
  refine gLoadIN X0 hx (hb hby at_0) (pc' := 1) rfl rfl ?_
  refine gCallS X0 hx hZ (y := (⟨"com/example/clausewright/clausewright/contract/UnitKeyPinLaw", "kindOf", "(I)Lcom/example/clausewright/clausewright/contract/UnitKind;"⟩ : MethodName)) hown e0 (by rw [hml]; rfl) (hw _ (List.mem_of_getElem? (i := 0) rfl)) (hw _ (List.mem_of_getElem? (i := 1) rfl)) (hw _ (List.mem_of_getElem? (i := 2) rfl)) (hw _ (List.mem_of_getElem? (i := 3) rfl)) (by decide) (argsL := [(.int p0)]) (st := []) (c_kindOf l Z a0 hw p0 a_ARTICLE a_SECTION a_EXHIBIT h0 hK) (lenOf pd_7 rfl) (hb hby at_1) (pc' := 4) rfl rfl (by decide) (W := 0) (Nat.le_of_eq rfl) (by decide) (by decide) (by decide) ?_
  intro T1 v1 L1 X1 hQ1
  obtain ⟨k, rfl, eq1, rfl⟩ := hQ1
  rw [List.append_nil] at X1
  refine gStoreA X1 hx (hb hby at_4) (l' := #[.val (.int p0), .val (.int p1), .val (.int p2), .val (.int p3), .val (.ref k), .unset, .unset, .unset, .unset]) (pc' := 6) rfl rfl rfl ?_
  refine gLoadIN X1 hx (hb hby at_6) (pc' := 7) rfl rfl ?_
  refine gCallSH X1 hx hZ (y := (⟨"com/example/clausewright/clausewright/contract/UnitKeyPinLaw", "str", "(I)Ljava/lang/String;"⟩ : MethodName)) hown eq1 (by rw [hml]; rfl) hS (Nat.zero_le _) hEL H0 (hw _ (List.mem_of_getElem? (i := 8) rfl)) (hw _ (List.mem_of_getElem? (i := 9) rfl)) (hw _ (List.mem_of_getElem? (i := 2) rfl)) (hw _ (List.mem_of_getElem? (i := 10) rfl)) (by decide) sl0 (argsL := [(.int p1)]) (st := []) (c_str l Z a0 hw p1 h0 hEL hCpt) (lenOf pd_8 rfl) (hb hby at_7) (pc' := 10) rfl rfl (by decide) (W := 0) (Nat.le_of_eq rfl) (by decide) (by decide) (by decide) ?_
  intro T2 v2 L2 X2 hS hZ hown C2 H2 hQ2
  obtain ⟨u2, rfl, Nq2, Kq2, Eq2⟩ := hQ2
  have N2 := Fr.app (Fr.nil h0.size) (fun y hy => Nat.le_trans (Nat.le_refl _) (Nq2 y hy))
  have zs2 := Nat.le_trans (Nat.le_refl _) Kq2.1
  have f2_0 := own_cpt_keep hCpt Kq2 ns0
  refine gStoreA X2 hx (hb hby at_10) (l' := #[.val (.int p0), .val (.int p1), .val (.int p2), .val (.int p3), .val (.ref k), .val (.ref u2), .unset, .unset, .unset]) (pc' := 12) rfl rfl rfl ?_
  refine gLoadIN X2 hx (hb hby at_12) (pc' := 13) rfl rfl ?_
  refine gCallSH X2 hx hZ (y := (⟨"com/example/clausewright/clausewright/contract/UnitKeyPinLaw", "str", "(I)Ljava/lang/String;"⟩ : MethodName)) hown rfl (by rw [hml]; rfl) hS (Nat.le_refl _) hEL H2 (hw _ (List.mem_of_getElem? (i := 8) rfl)) (hw _ (List.mem_of_getElem? (i := 9) rfl)) (hw _ (List.mem_of_getElem? (i := 2) rfl)) (hw _ (List.mem_of_getElem? (i := 10) rfl)) (by decide) sl0 (argsL := [(.int p2)]) (st := []) (c_str l Z a0 hw p2 T2.heap hEL f2_0) (lenOf pd_8 rfl) (hb hby at_13) (pc' := 16) rfl rfl (by decide) (W := 0) (Nat.le_of_eq rfl) (by decide) (by decide) (by decide) ?_
  intro T3 v3 L3 X3 hS hZ hown C3 H3 hQ3
  obtain ⟨u3, rfl, Nq3, Kq3, Eq3⟩ := hQ3
  have N3 := Fr.app N2 (fun y hy => Nat.le_trans zs2 (Nq3 y hy))
  have zs3 := Nat.le_trans zs2 Kq3.1
  have f3_0 := own_cpt_keep f2_0 Kq3 ns0
  have f3_1 := Eq2.keep Kq3
  refine gStoreA X3 hx (hb hby at_16) (l' := #[.val (.int p0), .val (.int p1), .val (.int p2), .val (.int p3), .val (.ref k), .val (.ref u2), .val (.ref u3), .unset, .unset]) (pc' := 18) rfl rfl rfl ?_
  refine gNew X3 hx hZ hown (hw _ (List.mem_of_getElem? (i := 41) rfl)) (hw _ (List.mem_of_getElem? (i := 42) rfl)) (hw _ (List.mem_of_getElem? (i := 43) rfl)) rfl (hb hby at_18) (pc' := 21) rfl (by decide) (by decide) (fun T4 h4 b4 X4 e4 g4 E4 A4 D4 => ?_)
  have ne_u2_b4 : u2 ≠ b4 := Nat.ne_of_lt (Nat.lt_of_lt_of_eq f3_1.lt g4.symm)
  have ne_u3_b4 : u3 ≠ b4 := Nat.ne_of_lt (Nat.lt_of_lt_of_eq Eq3.lt g4.symm)
  have H4 := H3.trans (CHr.ext E4 H3.1)
  have hk4 := Nat.le_trans (Nat.le_refl _) E4.1
  have s4_b := Safe.ext E4 H3.1 (Safe.new (Nat.le_of_eq g4.symm))
  have f4_0 := f3_0.ext E4
  have f4_1 := f3_1.ext E4
  have f4_2 := Eq3.ext E4
  have sz_b4 : h0.size ≤ b4 := Nat.le_trans zs3 (Nat.le_of_eq g4.symm)
  have zs4 : h0.size ≤ h4.size := Nat.le_trans zs3 E4.1
  have F4_kind : Fld Z h4 b4 "com/example/clausewright/clausewright/contract/Unit" "kind" "Lcom/example/clausewright/clausewright/contract/UnitKind;" .null := D4 (Or.inr (hw _ (List.mem_of_getElem? (i := 54) rfl))) (ty := (.object "com/example/clausewright/clausewright/contract/UnitKind")) (by decide)
  have F4_number : Fld Z h4 b4 "com/example/clausewright/clausewright/contract/Unit" "number" "Ljava/lang/String;" .null := D4 (Or.inr (hw _ (List.mem_of_getElem? (i := 56) rfl))) (ty := (.object "java/lang/String")) (by decide)
  have F4_title : Fld Z h4 b4 "com/example/clausewright/clausewright/contract/Unit" "title" "Ljava/lang/String;" .null := D4 (Or.inr (hw _ (List.mem_of_getElem? (i := 58) rfl))) (ty := (.object "java/lang/String")) (by decide)
  have F4_start : Fld Z h4 b4 "com/example/clausewright/clausewright/contract/Unit" "start" "I" (.int (0 : Int32)) := D4 (Or.inr (hw _ (List.mem_of_getElem? (i := 60) rfl))) (ty := .int) (by decide)
  refine gDup X4 hx (hb hby at_21) (pc' := 22) rfl rfl ?_
  refine gLoadA X4 hx (hb hby at_22) (pc' := 24) rfl rfl rfl ?_
  refine gLoadA X4 hx (hb hby at_24) (pc' := 26) rfl rfl rfl ?_
  refine gLoadA X4 hx (hb hby at_26) (pc' := 28) rfl rfl rfl ?_
  refine gLoadIN X4 hx (hb hby at_28) (pc' := 29) rfl rfl ?_
  refine gCallI X4 hx hZ (y := (⟨"com/example/clausewright/clausewright/contract/Unit", "<init>", "(Lcom/example/clausewright/clausewright/contract/UnitKind;Ljava/lang/String;Ljava/lang/String;I)V"⟩ : MethodName)) rfl hown e4 (by rw [hml]; rfl) (hw _ (List.mem_of_getElem? (i := 44) rfl)) (hw _ (List.mem_of_getElem? (i := 45) rfl)) (hw _ (List.mem_of_getElem? (i := 43) rfl)) (hw _ (List.mem_of_getElem? (i := 46) rfl)) (by decide) (argsL := [(.ref k), (.ref u2), (.ref u3), (.int p3)]) (st := [(.ref b4)]) (c_unit l Z a0 hw b4 k u2 u3 p3 h0.size h4 sz_b4 A4 F4_kind F4_number F4_title F4_start) (lenOf pd_10 rfl) (hb hby at_29) (pc' := 32) rfl rfl (by decide) (W := 1) (Nat.le_of_eq rfl) (by decide) (by decide) (by decide) ?_
  intro T5 v5 L5 X5 hQ5
  obtain ⟨rfl, Nq5, Kq5, Eq5, Fa5, Fb5⟩ := hQ5
  have N5 := Fr.app N3 Nq5
  have H5 := H4.trans (CHr.keep Kq5 (sfS s4_b sf0) H4.1)
  have hk5 := Nat.le_trans hk4 Kq5.1
  have s5_0 := Safe.keep Kq5 (sfS s4_b sf0) H4.1 s4_b
  have f5_0 := own_cpt_keep f4_0 Kq5 (nsS (Exa.nostat A4) ns0)
  have f5_1 := f4_1.keep Kq5
  have f5_2 := f4_2.keep Kq5
  have f5_3 := A4.keep Kq5
  have zs5 := Nat.le_trans zs4 Kq5.1
  refine gStoreA X5 hx (hb hby at_32) (l' := #[.val (.int p0), .val (.int p1), .val (.int p2), .val (.int p3), .val (.ref k), .val (.ref u2), .val (.ref u3), .val (.ref b4), .unset]) (pc' := 34) rfl rfl rfl ?_
  refine gLoadA X5 hx (hb hby at_34) (pc' := 36) rfl rfl rfl ?_
  refine gCallV X5 hx hZ (y := (⟨"com/example/clausewright/clausewright/contract/Unit", "key", "()Lcom/example/clausewright/clausewright/contract/UnitKey;"⟩ : MethodName)) hown rfl (by rw [hml]; rfl) Eq5 (hw _ (List.mem_of_getElem? (i := 61) rfl)) (hw _ (List.mem_of_getElem? (i := 62) rfl)) (hw _ (List.mem_of_getElem? (i := 64) rfl)) (hw _ (List.mem_of_getElem? (i := 63) rfl)) (hw _ (List.mem_of_getElem? (i := 43) rfl)) (hw _ (List.mem_of_getElem? (i := 65) rfl)) (by decide) (argsL := []) (st := []) (c_key l Z a0 hw b4 k u2 T5.heap Fa5 Fb5) (lenOf pd_0 rfl) (hb hby at_36) (pc' := 39) rfl rfl (by decide) (W := 0) (Nat.le_of_eq rfl) (by decide) (by decide) (by decide) ?_
  intro T6 v6 L6 X6 hQ6
  obtain ⟨q6, rfl, Nq6, Kq6, Eq6, Fa6, Fb6⟩ := hQ6
  have N6 := Fr.app N5 (fun y hy => Nat.le_trans zs5 (Nq6 y hy))
  have H6 := H5.trans (CHr.keep Kq6 sf0 H5.1)
  have hk6 := Nat.le_trans hk5 Kq6.1
  have s6_0 := Safe.keep Kq6 sf0 H5.1 s5_0
  have f6_0 := own_cpt_keep f5_0 Kq6 ns0
  have f6_1 := f5_1.keep Kq6
  have f6_2 := f5_2.keep Kq6
  have f6_3 := Eq5.keep Kq6
  have f6_4 := Fa5.keep Kq6 nin0
  have f6_5 := Fb5.keep Kq6 nin0
  refine gStoreA X6 hx (hb hby at_39) (l' := #[.val (.int p0), .val (.int p1), .val (.int p2), .val (.int p3), .val (.ref k), .val (.ref u2), .val (.ref u3), .val (.ref b4), .val (.ref q6)]) (pc' := 41) rfl rfl rfl ?_
  refine gLoadA X6 hx (hb hby at_41) (pc' := 43) rfl rfl rfl ?_
  refine gCallVJ X6 hx hZ (y := (⟨"com/example/clausewright/clausewright/contract/UnitKey", "kind", "()Lcom/example/clausewright/clausewright/contract/UnitKind;"⟩ : MethodName)) hown rfl (by rw [hml]; rfl) Eq6 (hw _ (List.mem_of_getElem? (i := 77) rfl)) (hw _ (List.mem_of_getElem? (i := 78) rfl)) (hw _ (List.mem_of_getElem? (i := 80) rfl)) (hw _ (List.mem_of_getElem? (i := 79) rfl)) (hw _ (List.mem_of_getElem? (i := 68) rfl)) (hw _ (List.mem_of_getElem? (i := 81) rfl)) (by decide) (argsL := []) (st := []) (c_kind l Z a0 hw q6 k _ Fa6) (lenOf pd_1 rfl) (hb hby at_43) (pc' := 46) rfl rfl rfl rfl (by decide) (W := 0) (Nat.le_of_eq rfl) (by decide) (by decide) (by decide) ?_
  intro T7 X7 e7
  refine gLoadA X7 hx (hb hby at_46) (pc' := 48) rfl rfl rfl ?_
  refine gAcmpEq X7 hx (hb hby at_48) rfl rfl (pc' := 53) (by decide) (by decide) (pn := 51) rfl (fun (c48 : (Value.ref k) = (.ref k)) => ?_) (fun (c48 : ¬ (Value.ref k) = (.ref k)) => ?_)
  · refine gLoadA X7 hx (hb hby at_53) (pc' := 55) rfl rfl rfl ?_
    refine gLoadA X7 hx (hb hby at_55) (pc' := 57) rfl rfl rfl ?_
    refine gCallVJ X7 hx hZ (y := (⟨"com/example/clausewright/clausewright/contract/UnitKey", "number", "()Ljava/lang/String;"⟩ : MethodName)) hown e7 (by rw [hml]; rfl) Eq6 (hw _ (List.mem_of_getElem? (i := 82) rfl)) (hw _ (List.mem_of_getElem? (i := 83) rfl)) (hw _ (List.mem_of_getElem? (i := 85) rfl)) (hw _ (List.mem_of_getElem? (i := 84) rfl)) (hw _ (List.mem_of_getElem? (i := 68) rfl)) (hw _ (List.mem_of_getElem? (i := 86) rfl)) (by decide) (argsL := []) (st := [(.ref u2)]) (c_num l Z a0 hw q6 u2 _ Fb6) (lenOf pd_2 rfl) (hb hby at_57) (pc' := 60) rfl rfl rfl rfl (by decide) (W := 1) (Nat.le_of_eq rfl) (by decide) (by decide) (by decide) ?_
    intro T8 X8 e8
    refine gCallVJ X8 hx hZ (y := (⟨"java/lang/String", "equals", "(Ljava/lang/Object;)Z"⟩ : MethodName)) hown e8 (by rw [hml]; rfl) f6_1 (hw _ (List.mem_of_getElem? (i := 87) rfl)) (hw _ (List.mem_of_getElem? (i := 88) rfl)) (hw _ (List.mem_of_getElem? (i := 90) rfl)) (hw _ (List.mem_of_getElem? (i := 89) rfl)) (hw _ (List.mem_of_getElem? (i := 14) rfl)) (hw _ (List.mem_of_getElem? (i := 91) rfl)) (by decide) (argsL := [(.ref u2)]) (st := []) (c_eqself l Z a0 hw u2 _) (lenOf pd_11 rfl) (hb hby at_60) (pc' := 63) rfl rfl rfl rfl (by decide) (W := 0) (Nat.le_of_eq rfl) (by decide) (by decide) (by decide) ?_
    intro T9 X9 e9
    exact gRetHN X9 hx hlk hret (by simp) (hb hby at_63) (w := (1 : Int32)) rfl e9 hS hk6 hZ hEL H6 (by decide) (by decide) (⟨rfl, N6⟩)
  · exact absurd rfl c48
theorem eq_v0 {args : Array Value} {s : State} {t : Term} {z k : Int32} (h : t.eval args s none [] s = some (.int z)) : (Jvm.Cond.eq t (.int k)).value args s none s [] = some (decide (z = k)) := by
  simp [Cond.value, h, Term.eval]
set_option maxRecDepth 65536 in
set_option maxHeartbeats 40000000 in
theorem comes_1 {Post : Tables → Env → Array Value → State → Outcome → State → Prop} (hpost : ∀ tb e args s v u, (limb_1_1.after args s (.returned v) u = true ∧ limb_1_2.after args s (.returned v) u = true ∧ True) → ReturnedEndW s (.returned v) u (Jvm.fieldLocs frame_1_writes args s ++ Jvm.arrayLocs frame_1_arrays args s ++ Jvm.staticLocs frame_1_statics s) 32 1152 → Post tb e args s (.returned v) u) :
    ArmFor flags0 classFile x code maxLocals ret World_1 tables_1 room_1 Calls_1 rest_1 Pre_1 Post := by
  intro l hfl _ _ p e ha hc hk s m args below hf hA hF happ hP
  obtain ⟨hcalls, hrest, hpre⟩ := hP
  obtain ⟨-, -, -, hnamed, -, -, -, hat⟩ := (Spec.applies_iff hf).mp happ
  obtain ⟨hg, hn⟩ := and_e (Cond.before_iff.mp (show (Jvm.Cond.and given_1 narrow_1).before args s = true from hpre))
  obtain ⟨hcount, hv⟩ := and_e hg
  obtain ⟨ha0, hv0⟩ := and_e hv
  obtain ⟨ha1, hv1⟩ := and_e hv0
  obtain ⟨ha2, hv2⟩ := and_e hv1
  obtain ⟨w0, w1, w2, w3, rfl⟩ : ∃ w0 w1 w2 w3 : Value, args = #[w0, w1, w2, w3] := by
    have hs : args.size = 4 := by simpa [Cond.value, given_1] using hcount
    obtain ⟨L⟩ := args
    match L, hs with
    | [w0, w1, w2, w3], _ => exact ⟨w0, w1, w2, w3, rfl⟩
  have hw := fun d (hd : d ∈ tables_1) => atoms_spec (ws := Jvm.Cond.code x code maxLocals ret :: tables_1) hat d (List.mem_cons_of_mem _ hd)
  have hfit : Fit s := fun {y c} hc i hi => by
    obtain ⟨ha, rfl⟩ := Array.getElem?_eq_some_iff.mp hc
    have q := List.all_eq_true.mp ((Array.all_eq_true_iff_forall_mem.mp hF) _ (Array.getElem_mem ha)) i (List.mem_range.mpr hi)
    simpa [Array.getElem?_eq_getElem hi] using q
  obtain ⟨i0, ei0⟩ := is_v ha0
  obtain rfl : w0 = (.int i0) := Option.some.inj ei0
  obtain ⟨i1, ei1⟩ := is_v ha1
  obtain rfl : w1 = (.int i1) := Option.some.inj ei1
  obtain ⟨i2, ei2⟩ := is_v ha2
  obtain rfl : w2 = (.int i2) := Option.some.inj ei2
  obtain ⟨i3, ei3⟩ := is_v hv2
  obtain rfl : w3 = (.int i3) := Option.some.inj ei3
  obtain ⟨hsets, hown0⟩ := atoms_of _ (rest_1_c_eq ▸ (show rest_1_c.before _ s = true from hrest))
  obtain ⟨cz, ecz⟩ := is_v (Cond.before_iff.mp (hsets _ (List.mem_of_getElem? (i := 1) rfl)))
  have SC := Sta.start ecz (Or.inl (hsets _ (List.mem_of_getElem? (i := 0) rfl)))
  have hnz := gotF (eq_v0 ecz (k := 0)) (not_v (Cond.before_iff.mp (hsets _ (List.mem_of_getElem? (i := 2) rfl))))
  have hCpt : Cpt s s.heap := ⟨cz, SC, fun q => hnz (Int32.toInt_inj.mp q)⟩
  have hEL : EW s _ [("java/lang/String", 7)] := EW.cons (hw _ (List.mem_of_getElem? (i := 92) rfl)) (by decide) EW.nil
  have hcw : Jvm.Lit.compactW.before _ s = true := (hsets _ (List.mem_of_getElem? (i := 2) rfl))
  have hCH : CHv s [("java/lang/String", 7)] s.vm s.heap := CHv.start hEL (fun p hp => hcalls.1 p hp) hcw (hw _ (List.mem_of_getElem? (i := 30) rfl)) (hw _ (List.mem_of_getElem? (i := 13) rfl))
  obtain ⟨n0, m0⟩ := and_e hn
  obtain ⟨n1, m1⟩ := and_e m0
  have n2 := m1
  obtain ⟨a_ARTICLE, ev_ARTICLE⟩ := exa_v n0
  have S_ARTICLE : Sta s s.heap "com/example/clausewright/clausewright/contract/UnitKind" "ARTICLE" "Lcom/example/clausewright/clausewright/contract/UnitKind;" (.ref a_ARTICLE) := Sta.start ev_ARTICLE (Or.inr ⟨(hw _ (List.mem_of_getElem? (i := 6) rfl)), (hw _ (List.mem_of_getElem? (i := 7) rfl))⟩)
  have E_ARTICLE : Exa s s.heap a_ARTICLE "com/example/clausewright/clausewright/contract/UnitKind" := Exa.start ev_ARTICLE n0
  obtain ⟨a_SECTION, ev_SECTION⟩ := exa_v n1
  have S_SECTION : Sta s s.heap "com/example/clausewright/clausewright/contract/UnitKind" "SECTION" "Lcom/example/clausewright/clausewright/contract/UnitKind;" (.ref a_SECTION) := Sta.start ev_SECTION (Or.inr ⟨(hw _ (List.mem_of_getElem? (i := 6) rfl)), (hw _ (List.mem_of_getElem? (i := 96) rfl))⟩)
  have E_SECTION : Exa s s.heap a_SECTION "com/example/clausewright/clausewright/contract/UnitKind" := Exa.start ev_SECTION n1
  obtain ⟨a_EXHIBIT, ev_EXHIBIT⟩ := exa_v n2
  have S_EXHIBIT : Sta s s.heap "com/example/clausewright/clausewright/contract/UnitKind" "EXHIBIT" "Lcom/example/clausewright/clausewright/contract/UnitKind;" (.ref a_EXHIBIT) := Sta.start ev_EXHIBIT (Or.inr ⟨(hw _ (List.mem_of_getElem? (i := 6) rfl)), (hw _ (List.mem_of_getElem? (i := 112) rfl))⟩)
  have E_EXHIBIT : Exa s s.heap a_EXHIBIT "com/example/clausewright/clausewright/contract/UnitKind" := Exa.start ev_EXHIBIT n2
  have hK : Known s s.heap a_ARTICLE a_SECTION a_EXHIBIT := ⟨S_ARTICLE, S_SECTION, S_EXHIBIT, E_ARTICLE, E_SECTION, E_EXHIBIT⟩
  obtain ⟨n, o, h1, h2, h3, _, L, rfl, ⟨rfl, N⟩, hCH, hq⟩ := c_law l s _ hw i0 i1 i2 i3 a_ARTICLE a_SECTION a_EXHIBIT s.heap hEL hCpt hK p e ha hc hk s m _ below hf ((Spec.applies_iff_loose hf).mp happ).1 ⟨rfl, State.Warmed39.refl s, rfl, hCH, fun _ q => nomatch q⟩ trivial
  refine ⟨n, _, h1, h2, h3, hpost _ _ _ _ _ _ ⟨Cond.after_iff.mpr rfl, Cond.after_iff.mpr (eq_i res_at (Term.int_eval (1)) rfl), trivial⟩ ⟨hq.1, hq.2.1, hq.2.2.1, (hq.2.2.2.sift fun y hy => Or.inr (N y hy)).mono (by decide) (by decide)⟩⟩
theorem main_1_1 : Claimed_1_1 := comes_1 fun _ _ _ _ _ _ h hF => ⟨h.1, hF⟩
theorem main_1_2 : Claimed_1_2 := comes_1 fun _ _ _ _ _ _ h hF => ⟨h.2.1, hF⟩
end Jvm.Pilot.@@N@@
namespace Jvm.Pilot.@@N@@
open Jvm Jvm.ClassFile Sem Op Lib Jvm.Free Jvm.Stand Jvm.Pilot.@@N@@.Jvm.D
/-! MADE BY PROGRAM (witnessworld.py) out of the Statement's table words and the real class files: 24 classes; the members and pool entries that the words name. The judged class is class 1, her method 3. -/
namespace start1
open Jvm.ClassFile
def u (s : String) : CpInfo := .utf8 (stringToUtf16 s)
/-- a pool by its gaps: so many unusable entries, then the entry; so many at the end -/
def gap : Nat → List CpInfo → List CpInfo
  | 0, r => r
  | n + 1, r => .unusable :: gap n r
def poolList (es : List (Nat × CpInfo)) (last : Nat) : List CpInfo := es.foldr (fun e r => gap e.1 (e.2 :: r)) (gap last [])
def pool (es : List (Nat × CpInfo)) (last : Nat) : Array CpInfo := ⟨poolList es last⟩
def fileOf (pool : Array CpInfo) (this : Nat) (attrs : Array Attribute := #[]) (ms : Array MethodInfo := #[]) (fl : Nat := 33) (sup : Nat := 0) (ifs : Array Nat := #[]) (fds : Array FieldInfo := #[]) : ClassFile where
  minorVersion := 0
  majorVersion := 65
  constantPool := pool
  accessFlags := fl
  thisClass := this
  superClass := sup
  interfaces := ifs
  fields := fds
  methods := ms
  attributes := attrs
def plain (name : String) (sup : Option ClassId) : Class where
  name := name
  kind := .ordinary
  loader := none
  accessFlags := 33
  super := sup
  interfaces := #[]
  cf := none
  fields := #[]
  methods := #[]
  instanceTypes := #[]
  staticTypes := #[]
  resolved := #[]
  callSites := []
  init := .initialized
  statics := none
  mirror := none

def pool0 : Array CpInfo := pool [(5, u "<init>"), (0, u "()V"), (1, .class_ 10), (1, u "java/lang/Object")] 113

def k0c0 : Code := { maxStack := 0, maxLocals := 1, code := object_method_1_code, exceptionTable := #[], attributes := #[] }
def k0m0 : Method := { name := "<init>", desc := "()V", sig := { parameters := [], returnType := none }, accessFlags := 1, code := some k0c0 }
/-- java/lang/Object -/
def k0 : Class := { plain "java/lang/Object" none with
  accessFlags := 33
  interfaces := #[]
  cf := some (fileOf pool0 8 #[] #[{ accessFlags := 1, nameIndex := 5, descriptorIndex := 6, attributes := #[] }] 33 0 #[] #[])
  fields := #[]
  methods := #[k0m0]
  instanceTypes := #[]
  staticTypes := #[]
  resolved := Array.replicate 124 none
  statics := none }

def pool1 : Array CpInfo := pool [(2, .class_ 4), (1, u "java/lang/Object"), (0, u "<init>"), (0, u "()V"), (0, .integer 2147483647), (0, .fieldref 9 10), (0, .class_ 11), (0, .nameAndType 12 13), (0, u "com/example/clausewright/clausewright/contract/UnitKind"), (0, u "ARTICLE"), (0, u "Lcom/example/clausewright/clausewright/contract/UnitKind;"), (0, .fieldref 9 15), (0, .nameAndType 16 13), (0, u "SECTION"), (0, .fieldref 9 18), (0, .nameAndType 19 13), (0, u "EXHIBIT"), (0, .class_ 21), (0, u "java/lang/String"), (0, .methodref 20 23), (0, .nameAndType 5 24), (0, u "([C)V"), (0, .methodref 20 26), (0, .nameAndType 27 28), (0, u "valueOf"), (0, u "(C)Ljava/lang/String;"), (0, .methodref 30 31), (0, .class_ 32), (0, .nameAndType 33 34), (0, u "com/example/clausewright/clausewright/contract/UnitKeyPinLaw"), (0, u "kindOf"), (0, u "(I)Lcom/example/clausewright/clausewright/contract/UnitKind;"), (0, .methodref 30 36), (0, .nameAndType 37 38), (0, u "str"), (0, u "(I)Ljava/lang/String;"), (0, .class_ 40), (0, u "com/example/clausewright/clausewright/contract/Unit"), (0, .methodref 39 42), (0, .nameAndType 5 43), (0, u "(Lcom/example/clausewright/clausewright/contract/UnitKind;Ljava/lang/String;Ljava/lang/String;I)V"), (0, .methodref 39 45), (0, .nameAndType 46 47), (0, u "key"), (0, u "()Lcom/example/clausewright/clausewright/contract/UnitKey;"), (0, .methodref 49 50), (0, .class_ 51), (0, .nameAndType 52 53), (0, u "com/example/clausewright/clausewright/contract/UnitKey"), (0, u "kind"), (0, u "()Lcom/example/clausewright/clausewright/contract/UnitKind;"), (0, .methodref 49 55), (0, .nameAndType 56 57), (0, u "number"), (0, u "()Ljava/lang/String;"), (0, .methodref 20 59), (0, .nameAndType 60 61), (0, u "equals"), (0, u "(Ljava/lang/Object;)Z"), (3, u "law"), (0, u "(IIII)Z")] 2

def k1m0 : Method := { name := "<init>", desc := "()V", sig := { parameters := [], returnType := none }, accessFlags := 1, code := none }
def k1c1 : Code := { maxStack := 2, maxLocals := 2, code := method_2_code, exceptionTable := #[], attributes := #[] }
def k1m1 : Method := { name := "kindOf", desc := "(I)Lcom/example/clausewright/clausewright/contract/UnitKind;", sig := { parameters := [.int], returnType := some (.object "com/example/clausewright/clausewright/contract/UnitKind") }, accessFlags := 10, code := some k1c1 }
def k1c2 : Code := { maxStack := 3, maxLocals := 5, code := method_3_code, exceptionTable := #[], attributes := #[] }
def k1m2 : Method := { name := "str", desc := "(I)Ljava/lang/String;", sig := { parameters := [.int], returnType := some (.object "java/lang/String") }, accessFlags := 10, code := some k1c2 }
def k1c3 : Code := { maxStack := 6, maxLocals := 9, code := code, exceptionTable := #[], attributes := #[] }
def k1m3 : Method := { name := "law", desc := "(IIII)Z", sig := { parameters := [.int, .int, .int, .int], returnType := some .boolean }, accessFlags := 9, code := some k1c3 }
/-- com/example/clausewright/clausewright/contract/UnitKeyPinLaw -/
def k1 : Class := { plain "com/example/clausewright/clausewright/contract/UnitKeyPinLaw" (some 0) with
  accessFlags := 49
  interfaces := #[]
  cf := some (fileOf pool1 30 #[] #[{ accessFlags := 1, nameIndex := 5, descriptorIndex := 6, attributes := #[] }, { accessFlags := 10, nameIndex := 33, descriptorIndex := 34, attributes := #[] }, { accessFlags := 10, nameIndex := 37, descriptorIndex := 38, attributes := #[] }, { accessFlags := 9, nameIndex := 65, descriptorIndex := 66, attributes := #[] }] 49 2 #[] #[])
  fields := #[]
  methods := #[k1m0, k1m1, k1m2, k1m3]
  instanceTypes := #[]
  staticTypes := #[]
  resolved := Array.replicate 69 none
  statics := none }

def pool2 : Array CpInfo := pool [(1, .class_ 2), (0, u "java/lang/constant/Constable"), (0, .class_ 4), (0, u "java/lang/Object")] 6

/-- java/lang/constant/Constable -/
def k2 : Class := { plain "java/lang/constant/Constable" (some 0) with
  accessFlags := 1537
  interfaces := #[]
  cf := some (fileOf pool2 1 #[] #[] 1537 3 #[] #[])
  fields := #[]
  methods := #[]
  instanceTypes := #[]
  staticTypes := #[]
  resolved := Array.replicate 11 none
  statics := none }

def pool3 : Array CpInfo := pool [(1, .class_ 2), (0, u "java/lang/Comparable"), (0, .class_ 4), (0, u "java/lang/Object")] 7

/-- java/lang/Comparable -/
def k3 : Class := { plain "java/lang/Comparable" (some 0) with
  accessFlags := 1537
  interfaces := #[]
  cf := some (fileOf pool3 1 #[] #[] 1537 3 #[] #[])
  fields := #[]
  methods := #[]
  instanceTypes := #[]
  staticTypes := #[]
  resolved := Array.replicate 12 none
  statics := none }

def pool4 : Array CpInfo := pool [(1, .class_ 2), (0, u "java/io/Serializable"), (0, .class_ 4), (0, u "java/lang/Object")] 2

/-- java/io/Serializable -/
def k4 : Class := { plain "java/io/Serializable" (some 0) with
  accessFlags := 1537
  interfaces := #[]
  cf := some (fileOf pool4 1 #[] #[] 1537 3 #[] #[])
  fields := #[]
  methods := #[]
  instanceTypes := #[]
  staticTypes := #[]
  resolved := Array.replicate 7 none
  statics := none }

def pool5 : Array CpInfo := pool [(2, .class_ 4), (1, u "java/lang/Enum"), (0, u "name"), (0, u "Ljava/lang/String;"), (2, u "ordinal"), (0, u "I"), (1, .class_ 14), (1, u "java/lang/Object"), (4, u "hash"), (86, .class_ 108), (1, u "java/lang/Enum$EnumDesc"), (2, .class_ 112), (0, u "java/lang/constant/Constable"), (0, .class_ 114), (0, u "java/lang/Comparable"), (0, .class_ 116), (0, u "java/io/Serializable")] 87

/-- java/lang/Enum -/
def k5 : Class := { plain "java/lang/Enum" (some 0) with
  accessFlags := 1057
  interfaces := #[2, 3, 4]
  cf := some (fileOf pool5 2 #[.nestMembers #[106]] #[] 1057 12 #[111, 113, 115] #[{ accessFlags := 18, nameIndex := 5, descriptorIndex := 6, attributes := #[] }, { accessFlags := 18, nameIndex := 9, descriptorIndex := 10, attributes := #[] }, { accessFlags := 2, nameIndex := 19, descriptorIndex := 10, attributes := #[] }])
  fields := #[{ name := "name", type := (.object "java/lang/String"), accessFlags := 18, slot := 0, constantValue := 0 }, { name := "ordinal", type := .int, accessFlags := 18, slot := 1, constantValue := 0 }, { name := "hash", type := .int, accessFlags := 2, slot := 2, constantValue := 0 }]
  methods := #[]
  instanceTypes := #[(.object "java/lang/String"), .int, .int]
  staticTypes := #[]
  resolved := Array.replicate 204 none
  statics := none }

def pool6 : Array CpInfo := pool [(1, .class_ 2), (0, u "com/example/clausewright/clausewright/contract/UnitKind"), (2, u "ARTICLE"), (0, u "Lcom/example/clausewright/clausewright/contract/UnitKind;"), (2, u "SECTION"), (2, u "EXHIBIT"), (2, u "$VALUES"), (0, u "[Lcom/example/clausewright/clausewright/contract/UnitKind;"), (6, .class_ 25), (1, u "java/lang/Enum"), (8, u "name"), (0, u "Ljava/lang/String;")] 30

/-- com/example/clausewright/clausewright/contract/UnitKind -/
def k6 : Class := { plain "com/example/clausewright/clausewright/contract/UnitKind" (some 5) with
  accessFlags := 16433
  interfaces := #[]
  cf := some (fileOf pool6 1 #[] #[] 16433 23 #[] #[{ accessFlags := 16409, nameIndex := 5, descriptorIndex := 6, attributes := #[] }, { accessFlags := 16409, nameIndex := 9, descriptorIndex := 6, attributes := #[] }, { accessFlags := 16409, nameIndex := 12, descriptorIndex := 6, attributes := #[] }, { accessFlags := 18, nameIndex := 34, descriptorIndex := 35, attributes := #[] }, { accessFlags := 4122, nameIndex := 15, descriptorIndex := 16, attributes := #[] }])
  fields := #[{ name := "ARTICLE", type := (.object "com/example/clausewright/clausewright/contract/UnitKind"), accessFlags := 16409, slot := 0, constantValue := 0 }, { name := "SECTION", type := (.object "com/example/clausewright/clausewright/contract/UnitKind"), accessFlags := 16409, slot := 1, constantValue := 0 }, { name := "EXHIBIT", type := (.object "com/example/clausewright/clausewright/contract/UnitKind"), accessFlags := 16409, slot := 2, constantValue := 0 }, { name := "name", type := (.object "java/lang/String"), accessFlags := 18, slot := 3, constantValue := 0 }, { name := "$VALUES", type := (.array (.object "com/example/clausewright/clausewright/contract/UnitKind")), accessFlags := 4122, slot := 3, constantValue := 0 }]
  methods := #[]
  instanceTypes := #[(.object "java/lang/String"), .int, .int, (.object "java/lang/String")]
  staticTypes := #[(.object "com/example/clausewright/clausewright/contract/UnitKind"), (.object "com/example/clausewright/clausewright/contract/UnitKind"), (.object "com/example/clausewright/clausewright/contract/UnitKind"), (.array (.object "com/example/clausewright/clausewright/contract/UnitKind"))]
  resolved := Array.replicate 66 none
  statics := some 0 }

def pool7 : Array CpInfo := pool [(2, .class_ 4), (1, u "java/lang/CharSequence"), (42, .class_ 48), (0, u "java/lang/CharSequence$1CodePointIterator"), (10, .class_ 60), (0, u "java/lang/CharSequence$1CharIterator"), (5, .class_ 67), (0, u "java/lang/Object")] 63

/-- java/lang/CharSequence -/
def k7 : Class := { plain "java/lang/CharSequence" (some 0) with
  accessFlags := 1537
  interfaces := #[]
  cf := some (fileOf pool7 2 #[.nestMembers #[47, 59]] #[] 1537 66 #[] #[])
  fields := #[]
  methods := #[]
  instanceTypes := #[]
  staticTypes := #[]
  resolved := Array.replicate 131 none
  statics := none }

def pool8 : Array CpInfo := pool [(1, .class_ 2), (0, u "java/lang/constant/ConstantDesc"), (0, .class_ 4), (0, u "java/lang/Object")] 32

/-- java/lang/constant/ConstantDesc -/
def k8 : Class := { plain "java/lang/constant/ConstantDesc" (some 0) with
  accessFlags := 1537
  interfaces := #[]
  cf := some (fileOf pool8 1 #[] #[] 1537 3 #[] #[])
  fields := #[]
  methods := #[]
  instanceTypes := #[]
  staticTypes := #[]
  resolved := Array.replicate 37 none
  statics := none }

def pool9 : Array CpInfo := pool [(1, .methodref 2 3), (0, .class_ 4), (0, .nameAndType 5 6), (0, u "java/lang/Object"), (0, u "<init>"), (0, u "()V"), (0, .string 8), (0, u ""), (0, .fieldref 10 11), (0, .class_ 12), (0, .nameAndType 13 14), (0, u "java/lang/String"), (0, u "value"), (0, u "[B"), (0, .fieldref 10 16), (0, .nameAndType 17 18), (0, u "coder"), (0, u "B"), (2, u "hash"), (0, u "I"), (2, u "hashIsZero"), (0, u "Z"), (0, .methodref 10 28), (0, .nameAndType 5 29), (0, u "([CIILjava/lang/Void;)V"), (8, .fieldref 10 39), (0, .nameAndType 40 26), (0, u "COMPACT_STRINGS"), (1, .class_ 44), (1, u "java/lang/StringUTF16"), (0, u "compress"), (1, .methodref 42 48), (0, .nameAndType 49 50), (0, u "coderFromArrayLen"), (0, u "([BI)B"), (2, u "toBytes"), (53, .class_ 109), (1, u "java/lang/StringLatin1"), (67, .methodref 42 178), (0, .nameAndType 45 179), (0, u "([CII)[B"), (29, .methodref 10 210), (0, .nameAndType 5 211), (0, u "([BB)V"), (157, u "(C)Z"), (173, u "equals"), (29, u "(Ljava/lang/Object;)Z"), (1, .class_ 576), (0, u "java/lang/CharSequence"), (22, u "CASE_INSENSITIVE_ORDER"), (0, u "Ljava/util/Comparator;"), (181, u "valueOf"), (0, u "(C)Ljava/lang/String;"), (226, u "([C)V"), (4, .methodref 107 1016), (0, .nameAndType 1017 369), (0, u "canEncode"), (0, .methodref 107 1019), (0, .nameAndType 53 1020), (0, u "(C)[B"), (80, u "serialPersistentFields"), (0, u "[Ljava/io/ObjectStreamField;"), (0, .class_ 1104), (0, u "java/lang/String$CaseInsensitiveComparator"), (1, .class_ 1107), (0, u "java/io/Serializable"), (0, .class_ 1109), (0, u "java/lang/Comparable"), (0, .class_ 1111), (0, u "java/lang/constant/Constable"), (0, .class_ 1113), (0, u "java/lang/constant/ConstantDesc"), (2, u "serialVersionUID"), (0, u "J"), (3, u "REPL"), (0, u "C"), (2, u "LATIN1"), (1, u "UTF16")] 323

def k9m0 : Method := { name := "<init>", desc := "()V", sig := { parameters := [], returnType := none }, accessFlags := 1, code := none }
def k9c1 : Code := { maxStack := 5, maxLocals := 2, code := jdk_42_method_3_code, exceptionTable := #[], attributes := #[] }
def k9m1 : Method := { name := "<init>", desc := "([C)V", sig := { parameters := [(.array .char)], returnType := none }, accessFlags := 1, code := some k9c1 }
def k9c2 : Code := { maxStack := 2, maxLocals := 3, code := jdk_42_method_66_code, exceptionTable := #[], attributes := #[] }
def k9m2 : Method := { name := "equals", desc := "(Ljava/lang/Object;)Z", sig := { parameters := [(.object "java/lang/Object")], returnType := some .boolean }, accessFlags := 1, code := some k9c2 }
def k9c3 : Code := { maxStack := 4, maxLocals := 1, code := jdk_42_method_139_code, exceptionTable := #[], attributes := #[] }
def k9m3 : Method := { name := "valueOf", desc := "(C)Ljava/lang/String;", sig := { parameters := [.char], returnType := some (.object "java/lang/String") }, accessFlags := 9, code := some k9c3 }
def k9c4 : Code := { maxStack := 4, maxLocals := 6, code := jdk_42_method_149_code, exceptionTable := #[], attributes := #[] }
def k9m4 : Method := { name := "<init>", desc := "([CIILjava/lang/Void;)V", sig := { parameters := [(.array .char), .int, .int, (.object "java/lang/Void")], returnType := none }, accessFlags := 2, code := some k9c4 }
def k9c5 : Code := { maxStack := 2, maxLocals := 3, code := jdk_42_method_151_code, exceptionTable := #[], attributes := #[] }
def k9m5 : Method := { name := "<init>", desc := "([BB)V", sig := { parameters := [(.array .byte), .byte], returnType := none }, accessFlags := 0, code := some k9c5 }
/-- java/lang/String -/
def k9 : Class := { plain "java/lang/String" (some 0) with
  accessFlags := 49
  interfaces := #[4, 3, 7, 2, 8]
  cf := some (fileOf pool9 10 #[.nestMembers #[1103]] #[{ accessFlags := 1, nameIndex := 5, descriptorIndex := 6, attributes := #[] }, { accessFlags := 1, nameIndex := 5, descriptorIndex := 1010, attributes := #[] }, { accessFlags := 1, nameIndex := 543, descriptorIndex := 573, attributes := #[] }, { accessFlags := 9, nameIndex := 782, descriptorIndex := 783, attributes := #[] }, { accessFlags := 2, nameIndex := 5, descriptorIndex := 29, attributes := #[] }, { accessFlags := 0, nameIndex := 5, descriptorIndex := 211, attributes := #[] }] 49 2 #[1106, 1108, 575, 1110, 1112] #[{ accessFlags := 18, nameIndex := 13, descriptorIndex := 14, attributes := #[] }, { accessFlags := 18, nameIndex := 17, descriptorIndex := 18, attributes := #[] }, { accessFlags := 2, nameIndex := 21, descriptorIndex := 22, attributes := #[] }, { accessFlags := 2, nameIndex := 25, descriptorIndex := 26, attributes := #[] }, { accessFlags := 26, nameIndex := 1116, descriptorIndex := 1117, attributes := #[] }, { accessFlags := 24, nameIndex := 40, descriptorIndex := 26, attributes := #[] }, { accessFlags := 26, nameIndex := 1101, descriptorIndex := 1102, attributes := #[] }, { accessFlags := 26, nameIndex := 1121, descriptorIndex := 1122, attributes := #[] }, { accessFlags := 25, nameIndex := 599, descriptorIndex := 600, attributes := #[] }, { accessFlags := 24, nameIndex := 1125, descriptorIndex := 18, attributes := #[] }, { accessFlags := 24, nameIndex := 1127, descriptorIndex := 18, attributes := #[] }])
  fields := #[{ name := "value", type := (.array .byte), accessFlags := 18, slot := 0, constantValue := 0 }, { name := "coder", type := .byte, accessFlags := 18, slot := 1, constantValue := 0 }, { name := "hash", type := .int, accessFlags := 2, slot := 2, constantValue := 0 }, { name := "hashIsZero", type := .boolean, accessFlags := 2, slot := 3, constantValue := 0 }, { name := "serialVersionUID", type := .long, accessFlags := 26, slot := 0, constantValue := 0 }, { name := "COMPACT_STRINGS", type := .boolean, accessFlags := 24, slot := 1, constantValue := 0 }, { name := "serialPersistentFields", type := (.array (.object "java/io/ObjectStreamField")), accessFlags := 26, slot := 2, constantValue := 0 }, { name := "REPL", type := .char, accessFlags := 26, slot := 3, constantValue := 0 }, { name := "CASE_INSENSITIVE_ORDER", type := (.object "java/util/Comparator"), accessFlags := 25, slot := 4, constantValue := 0 }, { name := "LATIN1", type := .byte, accessFlags := 24, slot := 5, constantValue := 0 }, { name := "UTF16", type := .byte, accessFlags := 24, slot := 6, constantValue := 0 }]
  methods := #[k9m0, k9m1, k9m2, k9m3, k9m4, k9m5]
  instanceTypes := #[(.array .byte), .byte, .int, .boolean]
  staticTypes := #[.long, .boolean, (.array (.object "java/io/ObjectStreamField")), .char, (.object "java/util/Comparator"), .byte, .byte]
  resolved := Array.replicate 1451 none
  statics := some 1 }

def pool10 : Array CpInfo := pool [(6, .class_ 8), (1, u "java/lang/Object"), (0, u "<init>"), (0, u "()V"), (1, .class_ 14), (1, u "java/lang/StringUTF16"), (31, u "$assertionsDisabled"), (0, u "Z"), (13, u "HI_BYTE_SHIFT"), (0, u "I"), (2, u "LO_BYTE_SHIFT"), (49, .methodref 12 116), (0, .nameAndType 117 118), (0, u "compress"), (0, u "([CI[BII)I"), (3, u "([CII)[B"), (138, u "coderFromArrayLen"), (0, u "([BI)B"), (106, .class_ 371), (1, u "java/lang/StringUTF16$LinesSpliterator"), (58, u "MAX_LENGTH"), (196, .class_ 628), (0, u "java/lang/StringUTF16$CodePointsSpliterator"), (0, .class_ 630), (0, u "java/lang/StringUTF16$CharsSpliterator")] 4

def k10m0 : Method := { name := "<init>", desc := "()V", sig := { parameters := [], returnType := none }, accessFlags := 0, code := none }
def k10c1 : Code := { maxStack := 2, maxLocals := 2, code := jdk_52_method_15_code, exceptionTable := #[], attributes := #[] }
def k10m1 : Method := { name := "coderFromArrayLen", desc := "([BI)B", sig := { parameters := [(.array .byte), .int], returnType := some .byte }, accessFlags := 8, code := some k10c1 }
def k10c2 : Code := { maxStack := 5, maxLocals := 6, code := jdk_52_method_16_code, exceptionTable := #[], attributes := #[] }
def k10m2 : Method := { name := "compress", desc := "([CII)[B", sig := { parameters := [(.array .char), .int, .int], returnType := some (.array .byte) }, accessFlags := 9, code := some k10c2 }
def k10c3 : Code := { maxStack := 3, maxLocals := 7, code := jdk_52_method_21_code, exceptionTable := #[], attributes := #[] }
def k10m3 : Method := { name := "compress", desc := "([CI[BII)I", sig := { parameters := [(.array .char), .int, (.array .byte), .int, .int], returnType := some .int }, accessFlags := 9, code := some k10c3 }
/-- java/lang/StringUTF16 -/
def k10 : Class := { plain "java/lang/StringUTF16" (some 0) with
  accessFlags := 48
  interfaces := #[]
  cf := some (fileOf pool10 12 #[.nestMembers #[627, 629, 369]] #[{ accessFlags := 0, nameIndex := 9, descriptorIndex := 10, attributes := #[] }, { accessFlags := 8, nameIndex := 261, descriptorIndex := 262, attributes := #[] }, { accessFlags := 9, nameIndex := 117, descriptorIndex := 122, attributes := #[] }, { accessFlags := 9, nameIndex := 117, descriptorIndex := 118, attributes := #[] }] 48 6 #[] #[{ accessFlags := 26, nameIndex := 61, descriptorIndex := 62, attributes := #[] }, { accessFlags := 26, nameIndex := 65, descriptorIndex := 62, attributes := #[] }, { accessFlags := 24, nameIndex := 430, descriptorIndex := 62, attributes := #[] }, { accessFlags := 4120, nameIndex := 46, descriptorIndex := 47, attributes := #[] }])
  fields := #[{ name := "HI_BYTE_SHIFT", type := .int, accessFlags := 26, slot := 0, constantValue := 0 }, { name := "LO_BYTE_SHIFT", type := .int, accessFlags := 26, slot := 1, constantValue := 0 }, { name := "MAX_LENGTH", type := .int, accessFlags := 24, slot := 2, constantValue := 0 }, { name := "$assertionsDisabled", type := .boolean, accessFlags := 4120, slot := 3, constantValue := 0 }]
  methods := #[k10m0, k10m1, k10m2, k10m3]
  instanceTypes := #[]
  staticTypes := #[.int, .int, .int, .boolean]
  resolved := Array.replicate 635 none
  statics := none }

def pool11 : Array CpInfo := pool [(1, .methodref 2 3), (0, .class_ 4), (0, .nameAndType 5 6), (0, u "java/lang/Object"), (0, u "<init>"), (0, u "()V"), (0, .class_ 8), (0, u "java/lang/Record")] 13

def k11c0 : Code := { maxStack := 1, maxLocals := 1, code := jdk_30_method_1_code, exceptionTable := #[], attributes := #[] }
def k11m0 : Method := { name := "<init>", desc := "()V", sig := { parameters := [], returnType := none }, accessFlags := 4, code := some k11c0 }
/-- java/lang/Record -/
def k11 : Class := { plain "java/lang/Record" (some 0) with
  accessFlags := 1057
  interfaces := #[]
  cf := some (fileOf pool11 7 #[] #[{ accessFlags := 4, nameIndex := 5, descriptorIndex := 6, attributes := #[] }] 1057 2 #[] #[])
  fields := #[]
  methods := #[k11m0]
  instanceTypes := #[]
  staticTypes := #[]
  resolved := Array.replicate 22 none
  statics := none }

def pool12 : Array CpInfo := pool [(1, .methodref 2 3), (0, .class_ 4), (0, .nameAndType 5 6), (0, u "java/lang/Record"), (0, u "<init>"), (0, u "()V"), (0, .fieldref 8 9), (0, .class_ 10), (0, .nameAndType 11 12), (0, u "com/example/clausewright/clausewright/contract/Unit"), (0, u "kind"), (0, u "Lcom/example/clausewright/clausewright/contract/UnitKind;"), (0, .fieldref 8 14), (0, .nameAndType 15 16), (0, u "number"), (0, u "Ljava/lang/String;"), (0, .fieldref 8 18), (0, .nameAndType 19 16), (0, u "title"), (0, .fieldref 8 21), (0, .nameAndType 22 23), (0, u "start"), (0, u "I"), (0, .class_ 25), (0, u "com/example/clausewright/clausewright/contract/UnitKey"), (0, .methodref 24 27), (0, .nameAndType 5 28), (0, u "(Lcom/example/clausewright/clausewright/contract/UnitKind;Ljava/lang/String;)V"), (2, u "key"), (0, u "()Lcom/example/clausewright/clausewright/contract/UnitKey;"), (16, u "(Lcom/example/clausewright/clausewright/contract/UnitKind;Ljava/lang/String;Ljava/lang/String;I)V")] 29

def k12c0 : Code := { maxStack := 2, maxLocals := 5, code := prog_16_method_1_code, exceptionTable := #[], attributes := #[] }
def k12m0 : Method := { name := "<init>", desc := "(Lcom/example/clausewright/clausewright/contract/UnitKind;Ljava/lang/String;Ljava/lang/String;I)V", sig := { parameters := [(.object "com/example/clausewright/clausewright/contract/UnitKind"), (.object "java/lang/String"), (.object "java/lang/String"), .int], returnType := none }, accessFlags := 1, code := some k12c0 }
def k12c1 : Code := { maxStack := 4, maxLocals := 1, code := prog_16_method_2_code, exceptionTable := #[], attributes := #[] }
def k12m1 : Method := { name := "key", desc := "()Lcom/example/clausewright/clausewright/contract/UnitKey;", sig := { parameters := [], returnType := some (.object "com/example/clausewright/clausewright/contract/UnitKey") }, accessFlags := 1, code := some k12c1 }
/-- com/example/clausewright/clausewright/contract/Unit -/
def k12 : Class := { plain "com/example/clausewright/clausewright/contract/Unit" (some 11) with
  accessFlags := 49
  interfaces := #[]
  cf := some (fileOf pool12 8 #[] #[{ accessFlags := 1, nameIndex := 5, descriptorIndex := 49, attributes := #[] }, { accessFlags := 1, nameIndex := 31, descriptorIndex := 32, attributes := #[] }] 49 2 #[] #[{ accessFlags := 18, nameIndex := 11, descriptorIndex := 12, attributes := #[] }, { accessFlags := 18, nameIndex := 15, descriptorIndex := 16, attributes := #[] }, { accessFlags := 18, nameIndex := 19, descriptorIndex := 16, attributes := #[] }, { accessFlags := 18, nameIndex := 22, descriptorIndex := 23, attributes := #[] }])
  fields := #[{ name := "kind", type := (.object "com/example/clausewright/clausewright/contract/UnitKind"), accessFlags := 18, slot := 0, constantValue := 0 }, { name := "number", type := (.object "java/lang/String"), accessFlags := 18, slot := 1, constantValue := 0 }, { name := "title", type := (.object "java/lang/String"), accessFlags := 18, slot := 2, constantValue := 0 }, { name := "start", type := .int, accessFlags := 18, slot := 3, constantValue := 0 }]
  methods := #[k12m0, k12m1]
  instanceTypes := #[(.object "com/example/clausewright/clausewright/contract/UnitKind"), (.object "java/lang/String"), (.object "java/lang/String"), .int]
  staticTypes := #[]
  resolved := Array.replicate 79 none
  statics := none }

def pool13 : Array CpInfo := pool [(1, .methodref 2 3), (0, .class_ 4), (0, .nameAndType 5 6), (0, u "java/lang/Record"), (0, u "<init>"), (0, u "()V"), (0, .fieldref 8 9), (0, .class_ 10), (0, .nameAndType 11 12), (0, u "com/example/clausewright/clausewright/contract/UnitKey"), (0, u "kind"), (0, u "Lcom/example/clausewright/clausewright/contract/UnitKind;"), (0, .fieldref 8 14), (0, .nameAndType 15 16), (0, u "number"), (0, u "Ljava/lang/String;"), (5, u "()Ljava/lang/String;"), (16, u "(Lcom/example/clausewright/clausewright/contract/UnitKind;Ljava/lang/String;)V"), (6, u "()Lcom/example/clausewright/clausewright/contract/UnitKind;")] 29

def k13c0 : Code := { maxStack := 2, maxLocals := 3, code := prog_17_method_1_code, exceptionTable := #[], attributes := #[] }
def k13m0 : Method := { name := "<init>", desc := "(Lcom/example/clausewright/clausewright/contract/UnitKind;Ljava/lang/String;)V", sig := { parameters := [(.object "com/example/clausewright/clausewright/contract/UnitKind"), (.object "java/lang/String")], returnType := none }, accessFlags := 1, code := some k13c0 }
def k13c1 : Code := { maxStack := 1, maxLocals := 1, code := prog_17_method_6_code, exceptionTable := #[], attributes := #[] }
def k13m1 : Method := { name := "kind", desc := "()Lcom/example/clausewright/clausewright/contract/UnitKind;", sig := { parameters := [], returnType := some (.object "com/example/clausewright/clausewright/contract/UnitKind") }, accessFlags := 1, code := some k13c1 }
def k13c2 : Code := { maxStack := 1, maxLocals := 1, code := prog_17_method_7_code, exceptionTable := #[], attributes := #[] }
def k13m2 : Method := { name := "number", desc := "()Ljava/lang/String;", sig := { parameters := [], returnType := some (.object "java/lang/String") }, accessFlags := 1, code := some k13c2 }
/-- com/example/clausewright/clausewright/contract/UnitKey -/
def k13 : Class := { plain "com/example/clausewright/clausewright/contract/UnitKey" (some 11) with
  accessFlags := 49
  interfaces := #[]
  cf := some (fileOf pool13 8 #[] #[{ accessFlags := 1, nameIndex := 5, descriptorIndex := 39, attributes := #[] }, { accessFlags := 1, nameIndex := 11, descriptorIndex := 46, attributes := #[] }, { accessFlags := 1, nameIndex := 15, descriptorIndex := 22, attributes := #[] }] 49 2 #[] #[{ accessFlags := 18, nameIndex := 11, descriptorIndex := 12, attributes := #[] }, { accessFlags := 18, nameIndex := 15, descriptorIndex := 16, attributes := #[] }])
  fields := #[{ name := "kind", type := (.object "com/example/clausewright/clausewright/contract/UnitKind"), accessFlags := 18, slot := 0, constantValue := 0 }, { name := "number", type := (.object "java/lang/String"), accessFlags := 18, slot := 1, constantValue := 0 }]
  methods := #[k13m0, k13m1, k13m2]
  instanceTypes := #[(.object "com/example/clausewright/clausewright/contract/UnitKind"), (.object "java/lang/String")]
  staticTypes := #[]
  resolved := Array.replicate 76 none
  statics := none }

def pool14 : Array CpInfo := pool [(4, .class_ 6), (1, u "java/lang/Object"), (0, u "<init>"), (0, u "()V"), (5, .class_ 16), (1, u "java/lang/StringLatin1"), (73, u "canEncode"), (14, u "(C)Z"), (15, u "$assertionsDisabled"), (0, u "Z"), (98, .class_ 223), (1, u "java/lang/StringLatin1$LinesSpliterator"), (156, u "toBytes"), (1, u "(C)[B"), (7, .class_ 391), (0, u "java/lang/StringLatin1$CharsSpliterator")] 3

def k14m0 : Method := { name := "<init>", desc := "()V", sig := { parameters := [], returnType := none }, accessFlags := 0, code := none }
def k14c1 : Code := { maxStack := 2, maxLocals := 1, code := jdk_43_method_3_code, exceptionTable := #[], attributes := #[] }
def k14m1 : Method := { name := "canEncode", desc := "(C)Z", sig := { parameters := [.char], returnType := some .boolean }, accessFlags := 9, code := some k14c1 }
def k14c2 : Code := { maxStack := 4, maxLocals := 1, code := jdk_43_method_46_code, exceptionTable := #[], attributes := #[] }
def k14m2 : Method := { name := "toBytes", desc := "(C)[B", sig := { parameters := [.char], returnType := some (.array .byte) }, accessFlags := 9, code := some k14c2 }
/-- java/lang/StringLatin1 -/
def k14 : Class := { plain "java/lang/StringLatin1" (some 0) with
  accessFlags := 48
  interfaces := #[]
  cf := some (fileOf pool14 14 #[.nestMembers #[390, 221]] #[{ accessFlags := 0, nameIndex := 7, descriptorIndex := 8, attributes := #[] }, { accessFlags := 9, nameIndex := 90, descriptorIndex := 105, attributes := #[] }, { accessFlags := 9, nameIndex := 380, descriptorIndex := 382, attributes := #[] }] 48 4 #[] #[{ accessFlags := 4120, nameIndex := 121, descriptorIndex := 122, attributes := #[] }])
  fields := #[{ name := "$assertionsDisabled", type := .boolean, accessFlags := 4120, slot := 0, constantValue := 0 }]
  methods := #[k14m0, k14m1, k14m2]
  instanceTypes := #[]
  staticTypes := #[.boolean]
  resolved := Array.replicate 395 none
  statics := none }

def pool15 : Array CpInfo := pool [(2, .class_ 4), (1, u "java/lang/Object"), (0, u "<init>"), (0, u "()V"), (17, .class_ 26), (1, u "jdk/internal/util/Preconditions"), (28, .class_ 56), (0, u "jdk/internal/util/Preconditions$4"), (57, .class_ 115), (0, u "jdk/internal/util/Preconditions$1"), (7, u "SIOOBE_FORMATTER"), (0, u "Ljava/util/function/BiFunction;"), (0, .class_ 126), (0, u "jdk/internal/util/Preconditions$2"), (3, u "AIOOBE_FORMATTER"), (0, .class_ 132), (0, u "jdk/internal/util/Preconditions$3"), (3, u "IOOBE_FORMATTER")] 57

def k15m0 : Method := { name := "<init>", desc := "()V", sig := { parameters := [], returnType := none }, accessFlags := 1, code := none }
/-- jdk/internal/util/Preconditions -/
def k15 : Class := { plain "jdk/internal/util/Preconditions" (some 0) with
  accessFlags := 33
  interfaces := #[]
  cf := some (fileOf pool15 24 #[.nestMembers #[55, 131, 125, 114]] #[{ accessFlags := 1, nameIndex := 5, descriptorIndex := 6, attributes := #[] }] 33 2 #[] #[{ accessFlags := 25, nameIndex := 123, descriptorIndex := 124, attributes := #[] }, { accessFlags := 25, nameIndex := 130, descriptorIndex := 124, attributes := #[] }, { accessFlags := 25, nameIndex := 136, descriptorIndex := 124, attributes := #[] }])
  fields := #[{ name := "SIOOBE_FORMATTER", type := (.object "java/util/function/BiFunction"), accessFlags := 25, slot := 0, constantValue := 0 }, { name := "AIOOBE_FORMATTER", type := (.object "java/util/function/BiFunction"), accessFlags := 25, slot := 1, constantValue := 0 }, { name := "IOOBE_FORMATTER", type := (.object "java/util/function/BiFunction"), accessFlags := 25, slot := 2, constantValue := 0 }]
  methods := #[k15m0]
  instanceTypes := #[]
  staticTypes := #[(.object "java/util/function/BiFunction"), (.object "java/util/function/BiFunction"), (.object "java/util/function/BiFunction")]
  resolved := Array.replicate 194 none
  statics := some 2 }

def pool16 : Array CpInfo := pool [(9, u "<init>"), (6, .class_ 18), (1, u "java/lang/Object"), (0, u "()V"), (1, .class_ 23), (1, u "jdk/internal/util/ArraysSupport"), (0, u "LOG2_ARRAY_LONG_INDEX_SCALE"), (0, u "I"), (2, u "U"), (0, u "Ljdk/internal/misc/Unsafe;"), (8, u "BIG_ENDIAN"), (0, u "Z"), (8, u "LOG2_BYTE_BIT_SIZE"), (4, u "LOG2_ARRAY_INT_INDEX_SCALE"), (54, u "JLA"), (0, u "Ljdk/internal/access/JavaLangAccess;"), (11, u "LOG2_ARRAY_BOOLEAN_INDEX_SCALE"), (9, u "LOG2_ARRAY_BYTE_INDEX_SCALE"), (5, u "LOG2_ARRAY_CHAR_INDEX_SCALE"), (5, u "LOG2_ARRAY_SHORT_INDEX_SCALE"), (18, u "LOG2_ARRAY_FLOAT_INDEX_SCALE"), (24, u "LOG2_ARRAY_DOUBLE_INDEX_SCALE"), (89, u "T_BOOLEAN"), (2, u "T_CHAR"), (1, u "T_FLOAT"), (1, u "T_DOUBLE"), (1, u "T_BYTE"), (1, u "T_SHORT"), (1, u "T_INT"), (1, u "T_LONG"), (1, u "SOFT_MAX_ARRAY_LENGTH")] 83

def k16m0 : Method := { name := "<init>", desc := "()V", sig := { parameters := [], returnType := none }, accessFlags := 2, code := none }
/-- jdk/internal/util/ArraysSupport -/
def k16 : Class := { plain "jdk/internal/util/ArraysSupport" (some 0) with
  accessFlags := 33
  interfaces := #[]
  cf := some (fileOf pool16 21 #[] #[{ accessFlags := 2, nameIndex := 9, descriptorIndex := 19, attributes := #[] }] 33 16 #[] #[{ accessFlags := 24, nameIndex := 28, descriptorIndex := 29, attributes := #[] }, { accessFlags := 26, nameIndex := 38, descriptorIndex := 39, attributes := #[] }, { accessFlags := 25, nameIndex := 121, descriptorIndex := 25, attributes := #[] }, { accessFlags := 25, nameIndex := 131, descriptorIndex := 25, attributes := #[] }, { accessFlags := 25, nameIndex := 137, descriptorIndex := 25, attributes := #[] }, { accessFlags := 25, nameIndex := 143, descriptorIndex := 25, attributes := #[] }, { accessFlags := 25, nameIndex := 53, descriptorIndex := 25, attributes := #[] }, { accessFlags := 25, nameIndex := 24, descriptorIndex := 25, attributes := #[] }, { accessFlags := 25, nameIndex := 162, descriptorIndex := 25, attributes := #[] }, { accessFlags := 25, nameIndex := 187, descriptorIndex := 25, attributes := #[] }, { accessFlags := 26, nameIndex := 48, descriptorIndex := 25, attributes := #[] }, { accessFlags := 25, nameIndex := 277, descriptorIndex := 25, attributes := #[] }, { accessFlags := 25, nameIndex := 280, descriptorIndex := 25, attributes := #[] }, { accessFlags := 25, nameIndex := 282, descriptorIndex := 25, attributes := #[] }, { accessFlags := 25, nameIndex := 284, descriptorIndex := 25, attributes := #[] }, { accessFlags := 25, nameIndex := 286, descriptorIndex := 25, attributes := #[] }, { accessFlags := 25, nameIndex := 288, descriptorIndex := 25, attributes := #[] }, { accessFlags := 25, nameIndex := 290, descriptorIndex := 25, attributes := #[] }, { accessFlags := 25, nameIndex := 292, descriptorIndex := 25, attributes := #[] }, { accessFlags := 26, nameIndex := 108, descriptorIndex := 109, attributes := #[] }, { accessFlags := 25, nameIndex := 294, descriptorIndex := 25, attributes := #[] }])
  fields := #[{ name := "U", type := (.object "jdk/internal/misc/Unsafe"), accessFlags := 24, slot := 0, constantValue := 0 }, { name := "BIG_ENDIAN", type := .boolean, accessFlags := 26, slot := 1, constantValue := 0 }, { name := "LOG2_ARRAY_BOOLEAN_INDEX_SCALE", type := .int, accessFlags := 25, slot := 2, constantValue := 0 }, { name := "LOG2_ARRAY_BYTE_INDEX_SCALE", type := .int, accessFlags := 25, slot := 3, constantValue := 0 }, { name := "LOG2_ARRAY_CHAR_INDEX_SCALE", type := .int, accessFlags := 25, slot := 4, constantValue := 0 }, { name := "LOG2_ARRAY_SHORT_INDEX_SCALE", type := .int, accessFlags := 25, slot := 5, constantValue := 0 }, { name := "LOG2_ARRAY_INT_INDEX_SCALE", type := .int, accessFlags := 25, slot := 6, constantValue := 0 }, { name := "LOG2_ARRAY_LONG_INDEX_SCALE", type := .int, accessFlags := 25, slot := 7, constantValue := 0 }, { name := "LOG2_ARRAY_FLOAT_INDEX_SCALE", type := .int, accessFlags := 25, slot := 8, constantValue := 0 }, { name := "LOG2_ARRAY_DOUBLE_INDEX_SCALE", type := .int, accessFlags := 25, slot := 9, constantValue := 0 }, { name := "LOG2_BYTE_BIT_SIZE", type := .int, accessFlags := 26, slot := 10, constantValue := 0 }, { name := "T_BOOLEAN", type := .int, accessFlags := 25, slot := 11, constantValue := 0 }, { name := "T_CHAR", type := .int, accessFlags := 25, slot := 12, constantValue := 0 }, { name := "T_FLOAT", type := .int, accessFlags := 25, slot := 13, constantValue := 0 }, { name := "T_DOUBLE", type := .int, accessFlags := 25, slot := 14, constantValue := 0 }, { name := "T_BYTE", type := .int, accessFlags := 25, slot := 15, constantValue := 0 }, { name := "T_SHORT", type := .int, accessFlags := 25, slot := 16, constantValue := 0 }, { name := "T_INT", type := .int, accessFlags := 25, slot := 17, constantValue := 0 }, { name := "T_LONG", type := .int, accessFlags := 25, slot := 18, constantValue := 0 }, { name := "JLA", type := (.object "jdk/internal/access/JavaLangAccess"), accessFlags := 26, slot := 19, constantValue := 0 }, { name := "SOFT_MAX_ARRAY_LENGTH", type := .int, accessFlags := 25, slot := 20, constantValue := 0 }]
  methods := #[k16m0]
  instanceTypes := #[]
  staticTypes := #[(.object "jdk/internal/misc/Unsafe"), .boolean, .int, .int, .int, .int, .int, .int, .int, .int, .int, .int, .int, .int, .int, .int, .int, .int, .int, (.object "jdk/internal/access/JavaLangAccess"), .int]
  resolved := Array.replicate 378 none
  statics := none }

def pool17 : Array CpInfo := pool [(1, u "java/lang/Cloneable"), (0, .class_ 1), (0, u "java/lang/Object"), (0, .class_ 3)] 3

/-- java/lang/Cloneable -/
def k17 : Class := { plain "java/lang/Cloneable" (some 0) with
  accessFlags := 1537
  interfaces := #[]
  cf := some (fileOf pool17 2 #[] #[] 1537 4 #[] #[])
  fields := #[]
  methods := #[]
  instanceTypes := #[]
  staticTypes := #[]
  resolved := Array.replicate 8 none
  statics := none }

/-- the primitive byte -/
def k18 : Class := { plain "byte" none with kind := .primitive 'B', accessFlags := 0x411 }
/-- [B -/
def k19 : Class := { plain "[B" (some 0) with kind := .array 18 .byte, interfaces := #[17, 4], accessFlags := 1041 }

/-- the primitive char -/
def k20 : Class := { plain "char" none with kind := .primitive 'C', accessFlags := 0x411 }
/-- [C -/
def k21 : Class := { plain "[C" (some 0) with kind := .array 20 .char, interfaces := #[17, 4], accessFlags := 1041 }

/-- the primitive int -/
def k22 : Class := { plain "int" none with kind := .primitive 'I', accessFlags := 0x411 }
/-- [I -/
def k23 : Class := { plain "[I" (some 0) with kind := .array 22 .int, interfaces := #[17, 4], accessFlags := 1041 }

def heap : Heap := #[{ cls := 6, slots := #[.ref 3, .ref 4, .ref 5, .null], vm := .statics 6 },
  { cls := 9, slots := #[.long 0, .int 1, .null, .int 0, .null, .int 0, .int 0], vm := .statics 9 },
  { cls := 15, slots := #[.null, .null, .null], vm := .statics 15 },
  { cls := 6, slots := #[.null, .int 0, .int 0, .null], vm := .none },
  { cls := 6, slots := #[.null, .int 1, .int 0, .null], vm := .none },
  { cls := 6, slots := #[.null, .int 2, .int 0, .null], vm := .none }]
def classes : Array Class := #[k0, k1, k2, k3, k4, k5, k6, k7, k8, k9, k10, k11, k12, k13, k14, k15, k16, k17, k18, k19, k20, k21, k22, k23]
def interned : List (Array UInt16 × Addr) := []
def slotsUsed : Nat := 26
def theMethod : MethodId := ⟨1, 3⟩
def args0 : Array Value := #[.int 5, .int 66051, .int 257, .int 7]
def aboutOver (below : List Frame) : State where
  vm := { classes := classes, interned := interned.toArray }
  heap := heap
  slotsUsed := slotsUsed
  threads := #[{ frames := .invoking theMethod args0 :: below }]
def below0 : List Frame := [.native { method := ⟨0, 0⟩, args := #[] }]
def about1 : State := aboutOver below0
def p0 : Program := .bare "" "" ""
def e0 : Env := launch0.env 0 0 0
theorem w_frames : about1.frames = Frame.invoking theMethod args0 :: below0 := rfl
set_option maxRecDepth 65536 in
theorem w_args : argsFit about1.vm theMethod args0 = true := by decide +kernel
set_option maxRecDepth 65536 in
theorem w_heap : heapFits about1 = true := by decide +kernel
set_option maxRecDepth 65536 in
theorem w_runnable : about1.curStatus? = some .runnable := by decide +kernel
set_option maxRecDepth 65536 in
theorem w_alone : about1.alone = true := by decide +kernel
set_option maxRecDepth 65536 in
theorem w_named : about1.methodNamed? x = some theMethod := by decide +kernel
set_option maxRecDepth 65536 in
theorem w_hears : about1.hears theMethod below0 = true := by decide +kernel
set_option maxRecDepth 65536 in
theorem w_ripe : about1.ripe theMethod args0 below0 = true := by decide +kernel
theorem w_running : about1.status = .running := rfl
set_option maxRecDepth 65536 in
theorem w_room : about1.hasRoom e0.platform room_1 = true :=
  launch0.hasRoom_least _ room_1 (by decide +kernel) (by decide +kernel) (by decide +kernel) (by decide +kernel) (by decide +kernel) (by decide +kernel)
theorem allAtoms_all (ts : List Jvm.Cond) (a : Array Jvm.Value) (st : Jvm.State) : (allAtoms ts).before a st = ts.all (fun c => c.before a st) := by
  induction ts with
  | nil => rfl
  | cons c t ih =>
    show (Jvm.Cond.and c (allAtoms t)).before a st = _
    rw [Jvm.Cond.before_and, ih, List.all_cons]
def words1 : List Jvm.Cond := Jvm.Cond.code x code maxLocals ret :: tables_1
/-- a 'code' word, met by the world's own term for the bytes: nothing is compared byte by byte -/
theorem code_word {y : MethodName} {bytes : ByteArray} {mx : Nat} {rt : Option FieldType} {a : Array Value} {s : State} {m : MethodId} {meth : Method} {c : Code} (h1 : s.methodNamed? y = some m) (h2 : s.vm.method? m = some meth) (h3 : meth.code = some c) (h4 : c.code = bytes)
    (h5 : (c.maxLocals == mx && c.exceptionTable.isEmpty && decide (c.maxStack ≤ mostOperands) && decide (meth.sig.returnType = rt) && !meth.locks && decide (parseMethodDescriptor y.desc = some meth.sig)) = true) : (Jvm.Cond.code y bytes mx rt).before a s = true := by
  simp only [Bool.and_eq_true, beq_iff_eq, Bool.not_eq_true', decide_eq_true_eq] at h5
  obtain ⟨⟨⟨⟨⟨g1, g2⟩, g3⟩, g4⟩, g5⟩, g6⟩ := h5
  simp [Cond.before, Cond.holds, Cond.value, h1, h2, h3, h4, g1, g2, g3, g4, g5, g6]
def isCode : Jvm.Cond → Bool
  | .code _ _ _ _ => true
  | _ => false
theorem all_split {L : List Jvm.Cond} {P : Jvm.Cond → Bool} (h1 : L.all (fun c => isCode c || P c) = true) (h2 : ∀ c ∈ L.filter isCode, P c = true) : L.all P = true := by
  refine List.all_eq_true.mpr fun c hc => ?_
  have h := List.all_eq_true.mp h1 c hc
  rcases Bool.eq_false_or_eq_true (isCode c) with hi | hi
  · exact h2 c (List.mem_filter.mpr ⟨hc, hi⟩)
  · simpa [hi] using h
set_option maxRecDepth 65536 in
theorem w_c0 : (Jvm.Cond.code x code maxLocals ret).before args0 about1 = true := code_word (m := ⟨1, 3⟩) (meth := k1m3) (c := k1c3) (by decide +kernel) rfl rfl rfl (by decide +kernel)
set_option maxRecDepth 65536 in
theorem w_c1 : (Jvm.Cond.code ({ cls := "com/example/clausewright/clausewright/contract/UnitKeyPinLaw", name := "kindOf", desc := "(I)Lcom/example/clausewright/clausewright/contract/UnitKind;" } : Jvm.MethodName) method_2_code (2 : Nat) (Option.some (Jvm.ClassFile.FieldType.object "com/example/clausewright/clausewright/contract/UnitKind"))).before args0 about1 = true := code_word (m := ⟨1, 1⟩) (meth := k1m1) (c := k1c1) (by decide +kernel) rfl rfl rfl (by decide +kernel)
set_option maxRecDepth 65536 in
theorem w_c2 : (Jvm.Cond.code ({ cls := "com/example/clausewright/clausewright/contract/UnitKeyPinLaw", name := "str", desc := "(I)Ljava/lang/String;" } : Jvm.MethodName) method_3_code (5 : Nat) (Option.some (Jvm.ClassFile.FieldType.object "java/lang/String"))).before args0 about1 = true := code_word (m := ⟨1, 2⟩) (meth := k1m2) (c := k1c2) (by decide +kernel) rfl rfl rfl (by decide +kernel)
set_option maxRecDepth 65536 in
theorem w_c3 : (Jvm.Cond.code ({ cls := "java/lang/String", name := "<init>", desc := "([C)V" } : Jvm.MethodName) jdk_42_method_3_code (2 : Nat) (Option.none : Option Jvm.ClassFile.FieldType)).before args0 about1 = true := code_word (m := ⟨9, 1⟩) (meth := k9m1) (c := k9c1) (by decide +kernel) rfl rfl rfl (by decide +kernel)
set_option maxRecDepth 65536 in
theorem w_c4 : (Jvm.Cond.code ({ cls := "java/lang/String", name := "<init>", desc := "([CIILjava/lang/Void;)V" } : Jvm.MethodName) jdk_42_method_149_code (6 : Nat) (Option.none : Option Jvm.ClassFile.FieldType)).before args0 about1 = true := code_word (m := ⟨9, 4⟩) (meth := k9m4) (c := k9c4) (by decide +kernel) rfl rfl rfl (by decide +kernel)
set_option maxRecDepth 65536 in
theorem w_c5 : (Jvm.Cond.code ({ cls := "java/lang/Object", name := "<init>", desc := "()V" } : Jvm.MethodName) object_method_1_code (1 : Nat) (Option.none : Option Jvm.ClassFile.FieldType)).before args0 about1 = true := code_word (m := ⟨0, 0⟩) (meth := k0m0) (c := k0c0) (by decide +kernel) rfl rfl rfl (by decide +kernel)
set_option maxRecDepth 65536 in
theorem w_c6 : (Jvm.Cond.code ({ cls := "java/lang/StringUTF16", name := "compress", desc := "([CII)[B" } : Jvm.MethodName) jdk_52_method_16_code (6 : Nat) (Option.some (Jvm.ClassFile.FieldType.array Jvm.ClassFile.FieldType.byte))).before args0 about1 = true := code_word (m := ⟨10, 2⟩) (meth := k10m2) (c := k10c2) (by decide +kernel) rfl rfl rfl (by decide +kernel)
set_option maxRecDepth 65536 in
theorem w_c7 : (Jvm.Cond.code ({ cls := "java/lang/StringUTF16", name := "compress", desc := "([CI[BII)I" } : Jvm.MethodName) jdk_52_method_21_code (7 : Nat) (Option.some Jvm.ClassFile.FieldType.int)).before args0 about1 = true := code_word (m := ⟨10, 3⟩) (meth := k10m3) (c := k10c3) (by decide +kernel) rfl rfl rfl (by decide +kernel)
set_option maxRecDepth 65536 in
theorem w_c8 : (Jvm.Cond.code ({ cls := "java/lang/StringUTF16", name := "coderFromArrayLen", desc := "([BI)B" } : Jvm.MethodName) jdk_52_method_15_code (2 : Nat) (Option.some Jvm.ClassFile.FieldType.byte)).before args0 about1 = true := code_word (m := ⟨10, 1⟩) (meth := k10m1) (c := k10c1) (by decide +kernel) rfl rfl rfl (by decide +kernel)
set_option maxRecDepth 65536 in
theorem w_c9 : (Jvm.Cond.code ({ cls := "com/example/clausewright/clausewright/contract/Unit", name := "<init>", desc := "(Lcom/example/clausewright/clausewright/contract/UnitKind;Ljava/lang/String;Ljava/lang/String;I)V" } : Jvm.MethodName) prog_16_method_1_code (5 : Nat) (Option.none : Option Jvm.ClassFile.FieldType)).before args0 about1 = true := code_word (m := ⟨12, 0⟩) (meth := k12m0) (c := k12c0) (by decide +kernel) rfl rfl rfl (by decide +kernel)
set_option maxRecDepth 65536 in
theorem w_c10 : (Jvm.Cond.code ({ cls := "java/lang/Record", name := "<init>", desc := "()V" } : Jvm.MethodName) jdk_30_method_1_code (1 : Nat) (Option.none : Option Jvm.ClassFile.FieldType)).before args0 about1 = true := code_word (m := ⟨11, 0⟩) (meth := k11m0) (c := k11c0) (by decide +kernel) rfl rfl rfl (by decide +kernel)
set_option maxRecDepth 65536 in
theorem w_c11 : (Jvm.Cond.code ({ cls := "com/example/clausewright/clausewright/contract/Unit", name := "key", desc := "()Lcom/example/clausewright/clausewright/contract/UnitKey;" } : Jvm.MethodName) prog_16_method_2_code (1 : Nat) (Option.some (Jvm.ClassFile.FieldType.object "com/example/clausewright/clausewright/contract/UnitKey"))).before args0 about1 = true := code_word (m := ⟨12, 1⟩) (meth := k12m1) (c := k12c1) (by decide +kernel) rfl rfl rfl (by decide +kernel)
set_option maxRecDepth 65536 in
theorem w_c12 : (Jvm.Cond.code ({ cls := "com/example/clausewright/clausewright/contract/UnitKey", name := "<init>", desc := "(Lcom/example/clausewright/clausewright/contract/UnitKind;Ljava/lang/String;)V" } : Jvm.MethodName) prog_17_method_1_code (3 : Nat) (Option.none : Option Jvm.ClassFile.FieldType)).before args0 about1 = true := code_word (m := ⟨13, 0⟩) (meth := k13m0) (c := k13c0) (by decide +kernel) rfl rfl rfl (by decide +kernel)
set_option maxRecDepth 65536 in
theorem w_c13 : (Jvm.Cond.code ({ cls := "com/example/clausewright/clausewright/contract/UnitKey", name := "kind", desc := "()Lcom/example/clausewright/clausewright/contract/UnitKind;" } : Jvm.MethodName) prog_17_method_6_code (1 : Nat) (Option.some (Jvm.ClassFile.FieldType.object "com/example/clausewright/clausewright/contract/UnitKind"))).before args0 about1 = true := code_word (m := ⟨13, 1⟩) (meth := k13m1) (c := k13c1) (by decide +kernel) rfl rfl rfl (by decide +kernel)
set_option maxRecDepth 65536 in
theorem w_c14 : (Jvm.Cond.code ({ cls := "com/example/clausewright/clausewright/contract/UnitKey", name := "number", desc := "()Ljava/lang/String;" } : Jvm.MethodName) prog_17_method_7_code (1 : Nat) (Option.some (Jvm.ClassFile.FieldType.object "java/lang/String"))).before args0 about1 = true := code_word (m := ⟨13, 2⟩) (meth := k13m2) (c := k13c2) (by decide +kernel) rfl rfl rfl (by decide +kernel)
set_option maxRecDepth 65536 in
theorem w_c15 : (Jvm.Cond.code ({ cls := "java/lang/String", name := "equals", desc := "(Ljava/lang/Object;)Z" } : Jvm.MethodName) jdk_42_method_66_code (3 : Nat) (Option.some Jvm.ClassFile.FieldType.boolean)).before args0 about1 = true := code_word (m := ⟨9, 2⟩) (meth := k9m2) (c := k9c2) (by decide +kernel) rfl rfl rfl (by decide +kernel)
set_option maxRecDepth 65536 in
theorem w_c16 : (Jvm.Cond.code ({ cls := "java/lang/String", name := "valueOf", desc := "(C)Ljava/lang/String;" } : Jvm.MethodName) jdk_42_method_139_code (1 : Nat) (Option.some (Jvm.ClassFile.FieldType.object "java/lang/String"))).before args0 about1 = true := code_word (m := ⟨9, 3⟩) (meth := k9m3) (c := k9c3) (by decide +kernel) rfl rfl rfl (by decide +kernel)
set_option maxRecDepth 65536 in
theorem w_c17 : (Jvm.Cond.code ({ cls := "java/lang/StringLatin1", name := "canEncode", desc := "(C)Z" } : Jvm.MethodName) jdk_43_method_3_code (1 : Nat) (Option.some Jvm.ClassFile.FieldType.boolean)).before args0 about1 = true := code_word (m := ⟨14, 1⟩) (meth := k14m1) (c := k14c1) (by decide +kernel) rfl rfl rfl (by decide +kernel)
set_option maxRecDepth 65536 in
theorem w_c18 : (Jvm.Cond.code ({ cls := "java/lang/StringLatin1", name := "toBytes", desc := "(C)[B" } : Jvm.MethodName) jdk_43_method_46_code (1 : Nat) (Option.some (Jvm.ClassFile.FieldType.array Jvm.ClassFile.FieldType.byte))).before args0 about1 = true := code_word (m := ⟨14, 2⟩) (meth := k14m2) (c := k14c2) (by decide +kernel) rfl rfl rfl (by decide +kernel)
set_option maxRecDepth 65536 in
theorem w_c19 : (Jvm.Cond.code ({ cls := "java/lang/String", name := "<init>", desc := "([BB)V" } : Jvm.MethodName) jdk_42_method_151_code (3 : Nat) (Option.none : Option Jvm.ClassFile.FieldType)).before args0 about1 = true := code_word (m := ⟨9, 5⟩) (meth := k9m5) (c := k9c5) (by decide +kernel) rfl rfl rfl (by decide +kernel)
def codes1 : List Jvm.Cond := [Jvm.Cond.code x code maxLocals ret, Jvm.Cond.code ({ cls := "com/example/clausewright/clausewright/contract/UnitKeyPinLaw", name := "kindOf", desc := "(I)Lcom/example/clausewright/clausewright/contract/UnitKind;" } : Jvm.MethodName) method_2_code (2 : Nat) (Option.some (Jvm.ClassFile.FieldType.object "com/example/clausewright/clausewright/contract/UnitKind")), Jvm.Cond.code ({ cls := "com/example/clausewright/clausewright/contract/UnitKeyPinLaw", name := "str", desc := "(I)Ljava/lang/String;" } : Jvm.MethodName) method_3_code (5 : Nat) (Option.some (Jvm.ClassFile.FieldType.object "java/lang/String")), Jvm.Cond.code ({ cls := "java/lang/String", name := "<init>", desc := "([C)V" } : Jvm.MethodName) jdk_42_method_3_code (2 : Nat) (Option.none : Option Jvm.ClassFile.FieldType), Jvm.Cond.code ({ cls := "java/lang/String", name := "<init>", desc := "([CIILjava/lang/Void;)V" } : Jvm.MethodName) jdk_42_method_149_code (6 : Nat) (Option.none : Option Jvm.ClassFile.FieldType), Jvm.Cond.code ({ cls := "java/lang/Object", name := "<init>", desc := "()V" } : Jvm.MethodName) object_method_1_code (1 : Nat) (Option.none : Option Jvm.ClassFile.FieldType), Jvm.Cond.code ({ cls := "java/lang/StringUTF16", name := "compress", desc := "([CII)[B" } : Jvm.MethodName) jdk_52_method_16_code (6 : Nat) (Option.some (Jvm.ClassFile.FieldType.array Jvm.ClassFile.FieldType.byte)), Jvm.Cond.code ({ cls := "java/lang/StringUTF16", name := "compress", desc := "([CI[BII)I" } : Jvm.MethodName) jdk_52_method_21_code (7 : Nat) (Option.some Jvm.ClassFile.FieldType.int), Jvm.Cond.code ({ cls := "java/lang/StringUTF16", name := "coderFromArrayLen", desc := "([BI)B" } : Jvm.MethodName) jdk_52_method_15_code (2 : Nat) (Option.some Jvm.ClassFile.FieldType.byte), Jvm.Cond.code ({ cls := "com/example/clausewright/clausewright/contract/Unit", name := "<init>", desc := "(Lcom/example/clausewright/clausewright/contract/UnitKind;Ljava/lang/String;Ljava/lang/String;I)V" } : Jvm.MethodName) prog_16_method_1_code (5 : Nat) (Option.none : Option Jvm.ClassFile.FieldType), Jvm.Cond.code ({ cls := "java/lang/Record", name := "<init>", desc := "()V" } : Jvm.MethodName) jdk_30_method_1_code (1 : Nat) (Option.none : Option Jvm.ClassFile.FieldType), Jvm.Cond.code ({ cls := "com/example/clausewright/clausewright/contract/Unit", name := "key", desc := "()Lcom/example/clausewright/clausewright/contract/UnitKey;" } : Jvm.MethodName) prog_16_method_2_code (1 : Nat) (Option.some (Jvm.ClassFile.FieldType.object "com/example/clausewright/clausewright/contract/UnitKey")), Jvm.Cond.code ({ cls := "com/example/clausewright/clausewright/contract/UnitKey", name := "<init>", desc := "(Lcom/example/clausewright/clausewright/contract/UnitKind;Ljava/lang/String;)V" } : Jvm.MethodName) prog_17_method_1_code (3 : Nat) (Option.none : Option Jvm.ClassFile.FieldType), Jvm.Cond.code ({ cls := "com/example/clausewright/clausewright/contract/UnitKey", name := "kind", desc := "()Lcom/example/clausewright/clausewright/contract/UnitKind;" } : Jvm.MethodName) prog_17_method_6_code (1 : Nat) (Option.some (Jvm.ClassFile.FieldType.object "com/example/clausewright/clausewright/contract/UnitKind")), Jvm.Cond.code ({ cls := "com/example/clausewright/clausewright/contract/UnitKey", name := "number", desc := "()Ljava/lang/String;" } : Jvm.MethodName) prog_17_method_7_code (1 : Nat) (Option.some (Jvm.ClassFile.FieldType.object "java/lang/String")), Jvm.Cond.code ({ cls := "java/lang/String", name := "equals", desc := "(Ljava/lang/Object;)Z" } : Jvm.MethodName) jdk_42_method_66_code (3 : Nat) (Option.some Jvm.ClassFile.FieldType.boolean), Jvm.Cond.code ({ cls := "java/lang/String", name := "valueOf", desc := "(C)Ljava/lang/String;" } : Jvm.MethodName) jdk_42_method_139_code (1 : Nat) (Option.some (Jvm.ClassFile.FieldType.object "java/lang/String")), Jvm.Cond.code ({ cls := "java/lang/StringLatin1", name := "canEncode", desc := "(C)Z" } : Jvm.MethodName) jdk_43_method_3_code (1 : Nat) (Option.some Jvm.ClassFile.FieldType.boolean), Jvm.Cond.code ({ cls := "java/lang/StringLatin1", name := "toBytes", desc := "(C)[B" } : Jvm.MethodName) jdk_43_method_46_code (1 : Nat) (Option.some (Jvm.ClassFile.FieldType.array Jvm.ClassFile.FieldType.byte)), Jvm.Cond.code ({ cls := "java/lang/String", name := "<init>", desc := "([BB)V" } : Jvm.MethodName) jdk_42_method_151_code (3 : Nat) (Option.none : Option Jvm.ClassFile.FieldType)]
set_option maxRecDepth 65536 in
theorem codes_eq : words1.filter isCode = codes1 := rfl
theorem w_codes : ∀ c ∈ words1.filter isCode, c.before args0 about1 = true := by
  rw [codes_eq]
  intro c hc
  simp only [codes1, List.mem_cons, List.not_mem_nil, or_false] at hc
  rcases hc with rfl | rfl | rfl | rfl | rfl | rfl | rfl | rfl | rfl | rfl | rfl | rfl | rfl | rfl | rfl | rfl | rfl | rfl | rfl | rfl
  · exact w_c0
  · exact w_c1
  · exact w_c2
  · exact w_c3
  · exact w_c4
  · exact w_c5
  · exact w_c6
  · exact w_c7
  · exact w_c8
  · exact w_c9
  · exact w_c10
  · exact w_c11
  · exact w_c12
  · exact w_c13
  · exact w_c14
  · exact w_c15
  · exact w_c16
  · exact w_c17
  · exact w_c18
  · exact w_c19
set_option maxRecDepth 65536 in
theorem w_t1 : (words1.take 24).all (fun c => isCode c || c.before args0 about1) = true := by decide +kernel
set_option maxRecDepth 65536 in
theorem w_t2 : ((words1.drop 24).take 24).all (fun c => isCode c || c.before args0 about1) = true := by decide +kernel
set_option maxRecDepth 65536 in
theorem w_t3 : (((words1.drop 24).drop 24).take 24).all (fun c => isCode c || c.before args0 about1) = true := by decide +kernel
set_option maxRecDepth 65536 in
theorem w_t4 : ((((words1.drop 24).drop 24).drop 24).take 24).all (fun c => isCode c || c.before args0 about1) = true := by decide +kernel
set_option maxRecDepth 65536 in
theorem w_t5 : ((((words1.drop 24).drop 24).drop 24).drop 24).all (fun c => isCode c || c.before args0 about1) = true := by decide +kernel
theorem w_tables : (allAtoms (Jvm.Cond.code x code maxLocals ret :: tables_1)).before args0 about1 = true := by
  rw [allAtoms_all]
  show words1.all (fun c => c.before args0 about1) = true
  refine all_split ?_ w_codes
  rw [← List.take_append_drop 24 words1, List.all_append, w_t1, ← List.take_append_drop 24 (words1.drop 24), List.all_append, w_t2, ← List.take_append_drop 24 ((words1.drop 24).drop 24), List.all_append, w_t3, ← List.take_append_drop 24 (((words1.drop 24).drop 24).drop 24), List.all_append, w_t4, w_t5]
  rfl
set_option maxRecDepth 65536 in
theorem w_rest : rest_1_c.before args0 about1 = true := by decide +kernel
set_option maxRecDepth 65536 in
theorem w_case : (Jvm.Cond.and given_1 narrow_1).before args0 about1 = true := by decide +kernel
set_option maxRecDepth 65536 in
theorem w_consts : constsHeld consts_1 about1 := Jvm.Lit.constsHeldB_iff.mp (by decide +kernel)
theorem w_applies : (headSpec (Jvm.Cond.code x code maxLocals ret :: tables_1) room_1).applies x e0.platform about1 = true :=
  (Spec.applies_iff w_frames).mpr ⟨w_running, w_runnable, w_alone, w_named, w_hears, w_ripe, w_room, w_tables⟩
theorem atStart : AtStart classFile x code maxLocals ret World_1 tables_1 room_1 Calls_1 rest_1 Pre_1 launch0 p0 e0 about1 theMethod args0 below0 :=
  ⟨lists_1, trivial, launch0.admits_env _ _ _, launch0.least_env, fairChoices_fair.cas, fairChoices_fair.clock, w_frames, w_args, w_heap, w_applies, ⟨w_consts, trivial⟩, w_rest, w_case⟩
end start1
theorem witness_1 : WitnessClaimed_1 := ⟨start1.p0, start1.e0, start1.about1, start1.theMethod, start1.args0, start1.below0, start1.atStart⟩
end Jvm.Pilot.@@N@@
