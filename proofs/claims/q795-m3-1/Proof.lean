import JvmDerived
import JvmDerived.Pilot.@@N@@Statement
import JvmDerived.Pilot.@@N@@Code
set_option linter.unusedVariables false
set_option linter.unusedSimpArgs false
@@BLOCK:NumsL.lean.txt@@
namespace Jvm.Pilot.@@N@@
open Jvm Jvm.ClassFile Sem Op Lib Jvm.Free Jvm.Stand Jvm.LawKit Jvm.RoadKit Bundle Jvm.Pilot.@@N@@.Jvm.D
section OwnLayer
variable {p : Program} {l : Launch} {e : Env} {R : Room} {s : State} {m : MethodId} {args : Array Value} {below : List Frame} {meth : Method} {c : Code} {T : State} {locs : List Loc} {cells slots : Nat}
variable {F : State → Outcome → Prop} {kc ks : Nat} {Q : Option Value → Heap → List Loc → Prop} {pc pc' : Nat} {ls : Array Slot} {st : List Value} {Z : State} {a0 : Array Value} {h : Heap}
/-- from this state and frame the run comes to an end of which F holds -/
def Goes (p : Program) (e : Env) (below : List Frame) (F : State → Outcome → Prop) (T : State) (g : JFrame) : Prop :=
  ∃ s₂ o, Steps p.tables e below (T.setTop g) s₂ ∧ s₂.status = .running ∧ Ended s₂ below o ∧ F s₂ o
/-- it returns, Q holds of the value, the heap and the places written; the frame is the plain one -/
def FinN (s : State) (kc ks : Nat) (Q : Option Value → Heap → List Loc → Prop) (s₂ : State) (o : Outcome) : Prop := ∃ v L, o = .returned v ∧ Q v s₂.heap L ∧ FrameEnd s o s₂ L kc ks
theorem Goes.fore {T' : State} {g g' : JFrame} (k : ∀ target, Steps p.tables e below (T'.setTop g') target → Steps p.tables e below (T.setTop g) target) (G : Goes p e below F T' g') : Goes p e below F T g := by
  obtain ⟨a, b, h, r⟩ := G; exact ⟨a, b, k _ h, r⟩
theorem Goes.tr {T' : State} {g g' : JFrame} (k : Steps p.tables e below (T.setTop g) (T'.setTop g')) (G : Goes p e below F T' g') : Goes p e below F T g := by
  obtain ⟨a, b, h, r⟩ := G; exact ⟨a, b, k.trans h, r⟩
theorem Goes.cast {g g' : JFrame} (q : g = g') (G : Goes p e below F T g') : Goes p e below F T g := q ▸ G
/-- a body's contract: called with these arguments on this heap it returns, and Q holds of the value, the heap and the places written -/
def Ctr (l : Launch) (Z : State) (y : MethodName) (bytes : ByteArray) (maxL : Nat) (ret : Option FieldType) (ws : List Jvm.Cond) (rm : Room) (as' : Array Value) (h0 : Heap) (Q : Option Value → Heap → List Loc → Prop) : Prop :=
  MetFree l y (head1 (Jvm.Cond.code y bytes maxL ret :: ws) rm) (fun a U => a = as' ∧ Z.Warmed39 U.vm ∧ U.heap = h0) (fun _ _ _ _ _ => True) (fun _ U o U' => ∃ v L, o = .returned v ∧ Q v U'.heap L ∧ FrameEnd U o U' L rm.cells rm.slots)
theorem Ctr.of {y : MethodName} {bytes : ByteArray} {maxL : Nat} {ret : Option FieldType} {ws : List Jvm.Cond} {rm : Room} {as' : Array Value} {h0 : Heap} (hp : plainFor y = true)
    (body : ∀ (p : Program) (e : Env) (s : State) (m : MethodId) (below : List Frame) (meth : Method) (c : Code) (s₁ : State), p.tables.exec = Jvm.exec → c.code = bytes → c.maxLocals = maxL → meth.sig.returnType = ret → s.vm.findClass y.cls = some m.cls → meth.name = y.name → Z.Warmed39 s.vm → meth.locks = false → Stand p l e rm s m as' below meth c s₁ [] 0 0 → s₁.heap = h0 → Goes p e below (FinN s rm.cells rm.slots Q) s₁ (entryFrame m as' maxL)) :
    Ctr l Z y bytes maxL ret ws rm as' h0 Q := by
  refine MetFree.of_bodySF hp hisR ?_
  intro p e s m args below meth c s₁ Bd hml hP hK
  obtain ⟨rfl, hZ, hh⟩ := hP
  exact body p e s m below meth c s₁ Bd.exec Bd.bytes hml Bd.returns (findClass_of_methodNamed Bd.named) (name_of_methodNamed Bd.named Bd.method).1 hZ Bd.notSynchronized (Stand.of_body Bd) (by rw [← hh, Bd.state]; rfl)
theorem Ctr.mono {y : MethodName} {bytes : ByteArray} {maxL : Nat} {ret : Option FieldType} {ws : List Jvm.Cond} {rm : Room} {as' : Array Value} {h0 : Heap} {Q' : Option Value → Heap → List Loc → Prop} (C : Ctr l Z y bytes maxL ret ws rm as' h0 Q) (hq : ∀ v h L, Q v h L → Q' v h L) : Ctr l Z y bytes maxL ret ws rm as' h0 Q' := by
  intro p e ha hc hk s m args below hf happ hP hK
  obtain ⟨n, o, h1, h2, h3, v, L, h4, h5, h6⟩ := C p e ha hc hk s m args below hf happ hP hK
  exact ⟨n, o, h1, h2, h3, v, L, h4, hq _ _ _ h5, h6⟩
/-- it returns w and leaves the heap as it was -/
def Just (h0 : Heap) (w : Value) (v : Option Value) (h : Heap) (L : List Loc) : Prop := v = some w ∧ h = h0 ∧ L = []
theorem gLoadIN (X : Stand p l e R s m args below meth c T locs cells slots) (hx : p.tables.exec = Jvm.exec) {k : Fin 4} {v : Int32} (hd : decode c.code pc = .ok (.iload_n k, 1)) (hl : ls[k.val]? = some (.val (.int v))) (hp : pc + 1 = pc') (k : Goes p e below F T (mkF m pc' ls (.int v :: st))) : Goes p e below F T (mkF m pc ls st) := by
  subst hp; exact Goes.fore (fun _ q => XS.iloadN X.here hx rfl hd hl q) k
theorem gLoadI (X : Stand p l e R s m args below meth c T locs cells slots) (hx : p.tables.exec = Jvm.exec) {k : Nat} {v : Int32} (hd : decode c.code pc = .ok (.iload k, 2)) (hl : ls[k]? = some (.val (.int v))) (hp : pc + 2 = pc') (k : Goes p e below F T (mkF m pc' ls (.int v :: st))) : Goes p e below F T (mkF m pc ls st) := by
  subst hp; exact Goes.fore (fun _ q => XS.iload X.here hx rfl hd hl q) k
theorem gStoreIN (X : Stand p l e R s m args below meth c T locs cells slots) (hx : p.tables.exec = Jvm.exec) {k : Fin 4} {v : Int32} {l' : Array Slot} (hd : decode c.code pc = .ok (.istore_n k, 1)) (hl : storeLocals ls k.val (.int v) = some l') (hp : pc + 1 = pc') (k : Goes p e below F T (mkF m pc' l' st)) : Goes p e below F T (mkF m pc ls (.int v :: st)) := by
  subst hp; exact Goes.fore (fun _ q => XS.istoreN X.here hx rfl hd rfl hl q) k
theorem gStoreI (X : Stand p l e R s m args below meth c T locs cells slots) (hx : p.tables.exec = Jvm.exec) {k : Nat} {v : Int32} {l' : Array Slot} (hd : decode c.code pc = .ok (.istore k, 2)) (hl : storeLocals ls k (.int v) = some l') (hp : pc + 2 = pc') (k : Goes p e below F T (mkF m pc' l' st)) : Goes p e below F T (mkF m pc ls (.int v :: st)) := by
  subst hp; exact Goes.fore (fun _ q => XS.istore X.here hx rfl hd rfl hl q) k
theorem gLoadJN (X : Stand p l e R s m args below meth c T locs cells slots) (hx : p.tables.exec = Jvm.exec) {k : Fin 4} {v : Int64} (hd : decode c.code pc = .ok (.lload_n k, 1)) (hl : ls[k.val]? = some (.val (.long v))) (hp : pc + 1 = pc') (k : Goes p e below F T (mkF m pc' ls (.long v :: st))) : Goes p e below F T (mkF m pc ls st) := by
  subst hp; exact Goes.fore (fun _ q => XS.lloadN X.here hx rfl hd hl q) k
theorem gLoadJ (X : Stand p l e R s m args below meth c T locs cells slots) (hx : p.tables.exec = Jvm.exec) {k : Nat} {v : Int64} (hd : decode c.code pc = .ok (.lload k, 2)) (hl : ls[k]? = some (.val (.long v))) (hp : pc + 2 = pc') (k : Goes p e below F T (mkF m pc' ls (.long v :: st))) : Goes p e below F T (mkF m pc ls st) := by
  subst hp; exact Goes.fore (fun _ q => XS.lload X.here hx rfl hd hl q) k
theorem gStoreJN (X : Stand p l e R s m args below meth c T locs cells slots) (hx : p.tables.exec = Jvm.exec) {k : Fin 4} {v : Int64} {l' : Array Slot} (hd : decode c.code pc = .ok (.lstore_n k, 1)) (hl : storeLocals ls k.val (.long v) = some l') (hp : pc + 1 = pc') (k : Goes p e below F T (mkF m pc' l' st)) : Goes p e below F T (mkF m pc ls (.long v :: st)) := by
  subst hp; exact Goes.fore (fun _ q => XS.lstoreN X.here hx rfl hd rfl hl q) k
theorem gStoreJ (X : Stand p l e R s m args below meth c T locs cells slots) (hx : p.tables.exec = Jvm.exec) {k : Nat} {v : Int64} {l' : Array Slot} (hd : decode c.code pc = .ok (.lstore k, 2)) (hl : storeLocals ls k (.long v) = some l') (hp : pc + 2 = pc') (k : Goes p e below F T (mkF m pc' l' st)) : Goes p e below F T (mkF m pc ls (.long v :: st)) := by
  subst hp; exact Goes.fore (fun _ q => XS.lstore X.here hx rfl hd rfl hl q) k
theorem gLoadAN (X : Stand p l e R s m args below meth c T locs cells slots) (hx : p.tables.exec = Jvm.exec) {k : Fin 4} {v : Value} (hd : decode c.code pc = .ok (.aload_n k, 1)) (hl : ls[k.val]? = some (.val v)) (hv : v.isRef = true) (hp : pc + 1 = pc') (k : Goes p e below F T (mkF m pc' ls (v :: st))) : Goes p e below F T (mkF m pc ls st) := by
  subst hp; exact Goes.fore (fun _ q => XS.aloadN X.here hx rfl hd hl hv q) k
theorem gLoadA (X : Stand p l e R s m args below meth c T locs cells slots) (hx : p.tables.exec = Jvm.exec) {k : Nat} {v : Value} (hd : decode c.code pc = .ok (.aload k, 2)) (hl : ls[k]? = some (.val v)) (hv : v.isRef = true) (hp : pc + 2 = pc') (k : Goes p e below F T (mkF m pc' ls (v :: st))) : Goes p e below F T (mkF m pc ls st) := by
  subst hp; exact Goes.fore (fun _ q => XS.aload X.here hx rfl hd hl hv q) k
theorem gStoreAN (X : Stand p l e R s m args below meth c T locs cells slots) (hx : p.tables.exec = Jvm.exec) {k : Fin 4} {v : Value} {l' : Array Slot} (hd : decode c.code pc = .ok (.astore_n k, 1)) (hv : v.isRef = true) (hl : storeLocals ls k.val v = some l') (hp : pc + 1 = pc') (k : Goes p e below F T (mkF m pc' l' st)) : Goes p e below F T (mkF m pc ls (v :: st)) := by
  subst hp; exact Goes.fore (fun _ q => XS.astoreN X.here hx rfl hd rfl hv hl q) k
theorem gStoreA (X : Stand p l e R s m args below meth c T locs cells slots) (hx : p.tables.exec = Jvm.exec) {k : Nat} {v : Value} {l' : Array Slot} (hd : decode c.code pc = .ok (.astore k, 2)) (hv : v.isRef = true) (hl : storeLocals ls k v = some l') (hp : pc + 2 = pc') (k : Goes p e below F T (mkF m pc' l' st)) : Goes p e below F T (mkF m pc ls (v :: st)) := by
  subst hp; exact Goes.fore (fun _ q => XS.astore X.here hx rfl hd rfl hv hl q) k
theorem gIconst (X : Stand p l e R s m args below meth c T locs cells slots) (hx : p.tables.exec = Jvm.exec) {i : Int} {v : Int32} (hd : decode c.code pc = .ok (.iconst i, 1)) (hv : Int32.ofInt i = v) (hp : pc + 1 = pc') (k : Goes p e below F T (mkF m pc' ls (.int v :: st))) : Goes p e below F T (mkF m pc ls st) := by
  subst hp; exact Goes.fore (fun _ q => XT.iconstV X.here hx rfl v hd hv q) k
theorem gBipush (X : Stand p l e R s m args below meth c T locs cells slots) (hx : p.tables.exec = Jvm.exec) {i : Int} {v : Int32} (hd : decode c.code pc = .ok (.bipush i, 2)) (hv : (Int8.ofInt i).toInt32 = v) (hp : pc + 2 = pc') (k : Goes p e below F T (mkF m pc' ls (.int v :: st))) : Goes p e below F T (mkF m pc ls st) := by
  subst hp; exact Goes.fore (fun _ q => XT.bipushV X.here hx rfl v hd hv q) k
theorem gSipush (X : Stand p l e R s m args below meth c T locs cells slots) (hx : p.tables.exec = Jvm.exec) {i : Int} {v : Int32} (hd : decode c.code pc = .ok (.sipush i, 3)) (hv : (Int16.ofInt i).toInt32 = v) (hp : pc + 3 = pc') (k : Goes p e below F T (mkF m pc' ls (.int v :: st))) : Goes p e below F T (mkF m pc ls st) := by
  subst hp; exact Goes.fore (fun _ q => XT.sipushV X.here hx rfl v hd hv q) k
theorem gLconst (X : Stand p l e R s m args below meth c T locs cells slots) (hx : p.tables.exec = Jvm.exec) {i : Fin 2} {v : Int64} (hd : decode c.code pc = .ok (.lconst i, 1)) (hv : Int64.ofNat i = v) (hp : pc + 1 = pc') (k : Goes p e below F T (mkF m pc' ls (.long v :: st))) : Goes p e below F T (mkF m pc ls st) := by
  subst hp; exact Goes.fore (fun _ q => XT.lconstV X.here hx rfl v hd hv q) k
theorem gNull (X : Stand p l e R s m args below meth c T locs cells slots) (hx : p.tables.exec = Jvm.exec)  (hd : decode c.code pc = .ok (.aconst_null, 1))  (hp : pc + 1 = pc') (k : Goes p e below F T (mkF m pc' ls (.null :: st))) : Goes p e below F T (mkF m pc ls st) := by
  subst hp; exact Goes.fore (fun _ q => XS.aconstNull X.here hx rfl hd q) k
theorem gLdc (X : Stand p l e R s m args below meth c T locs cells slots) (hx : p.tables.exec = Jvm.exec) {own : String} {i : Nat} {v : Int32} (hZ : Z.Warmed39 s.vm) (hown : s.vm.findClass own = some m.cls) (w : (Jvm.Cond.constant own i v).before a0 Z = true) (hd : decode c.code pc = .ok (.ldc i, 2))  (hp : pc + 2 = pc') (k : Goes p e below F T (mkF m pc' ls (.int v :: st))) : Goes p e below F T (mkF m pc ls st) := by
  subst hp; exact Goes.fore (fun _ q => X.ldcI hx hown (mvT hZ w) rfl hd q) k
theorem gLdcW (X : Stand p l e R s m args below meth c T locs cells slots) (hx : p.tables.exec = Jvm.exec) {own : String} {i : Nat} {v : Int32} (hZ : Z.Warmed39 s.vm) (hown : s.vm.findClass own = some m.cls) (w : (Jvm.Cond.constant own i v).before a0 Z = true) (hd : decode c.code pc = .ok (.ldc_w i, 3))  (hp : pc + 3 = pc') (k : Goes p e below F T (mkF m pc' ls (.int v :: st))) : Goes p e below F T (mkF m pc ls st) := by
  subst hp; exact Goes.fore (fun _ q => X.ldcWI hx hown (mvT hZ w) rfl hd q) k
theorem gLdc2 (X : Stand p l e R s m args below meth c T locs cells slots) (hx : p.tables.exec = Jvm.exec) {own : String} {i : Nat} {v : Int64} (hZ : Z.Warmed39 s.vm) (hown : s.vm.findClass own = some m.cls) (w : (Jvm.Cond.constantLong own i v).before a0 Z = true) (hd : decode c.code pc = .ok (.ldc2_w i, 3))  (hp : pc + 3 = pc') (k : Goes p e below F T (mkF m pc' ls (.long v :: st))) : Goes p e below F T (mkF m pc ls st) := by
  subst hp; exact Goes.fore (fun _ q => X.ldc2J hx hown (mvT hZ w) rfl hd q) k
theorem gIadd (X : Stand p l e R s m args below meth c T locs cells slots) (hx : p.tables.exec = Jvm.exec) {x y : Int32} (hd : decode c.code pc = .ok (.iadd, 1))  (hp : pc + 1 = pc') (k : Goes p e below F T (mkF m pc' ls (.int (x + y) :: st))) : Goes p e below F T (mkF m pc ls (.int y :: .int x :: st)) := by
  subst hp; exact Goes.fore (fun _ q => XS.iadd X.here hx rfl hd rfl q) k
theorem gIsub (X : Stand p l e R s m args below meth c T locs cells slots) (hx : p.tables.exec = Jvm.exec) {x y : Int32} (hd : decode c.code pc = .ok (.isub, 1))  (hp : pc + 1 = pc') (k : Goes p e below F T (mkF m pc' ls (.int (x - y) :: st))) : Goes p e below F T (mkF m pc ls (.int y :: .int x :: st)) := by
  subst hp; exact Goes.fore (fun _ q => XS.isub X.here hx rfl hd rfl q) k
theorem gImul (X : Stand p l e R s m args below meth c T locs cells slots) (hx : p.tables.exec = Jvm.exec) {x y : Int32} (hd : decode c.code pc = .ok (.imul, 1))  (hp : pc + 1 = pc') (k : Goes p e below F T (mkF m pc' ls (.int (x * y) :: st))) : Goes p e below F T (mkF m pc ls (.int y :: .int x :: st)) := by
  subst hp; exact Goes.fore (fun _ q => XS.imul X.here hx rfl hd rfl q) k
theorem gIand (X : Stand p l e R s m args below meth c T locs cells slots) (hx : p.tables.exec = Jvm.exec) {x y : Int32} (hd : decode c.code pc = .ok (.iand, 1))  (hp : pc + 1 = pc') (k : Goes p e below F T (mkF m pc' ls (.int (x &&& y) :: st))) : Goes p e below F T (mkF m pc ls (.int y :: .int x :: st)) := by
  subst hp; exact Goes.fore (fun _ q => XS.iand X.here hx rfl hd rfl q) k
theorem gIor (X : Stand p l e R s m args below meth c T locs cells slots) (hx : p.tables.exec = Jvm.exec) {x y : Int32} (hd : decode c.code pc = .ok (.ior, 1))  (hp : pc + 1 = pc') (k : Goes p e below F T (mkF m pc' ls (.int (x ||| y) :: st))) : Goes p e below F T (mkF m pc ls (.int y :: .int x :: st)) := by
  subst hp; exact Goes.fore (fun _ q => XS.ior X.here hx rfl hd rfl q) k
theorem gIxor (X : Stand p l e R s m args below meth c T locs cells slots) (hx : p.tables.exec = Jvm.exec) {x y : Int32} (hd : decode c.code pc = .ok (.ixor, 1))  (hp : pc + 1 = pc') (k : Goes p e below F T (mkF m pc' ls (.int (x ^^^ y) :: st))) : Goes p e below F T (mkF m pc ls (.int y :: .int x :: st)) := by
  subst hp; exact Goes.fore (fun _ q => XS.ixor X.here hx rfl hd rfl q) k
theorem gIshl (X : Stand p l e R s m args below meth c T locs cells slots) (hx : p.tables.exec = Jvm.exec) {x y : Int32} (hd : decode c.code pc = .ok (.ishl, 1))  (hp : pc + 1 = pc') (k : Goes p e below F T (mkF m pc' ls (.int (x <<< (y &&& 31)) :: st))) : Goes p e below F T (mkF m pc ls (.int y :: .int x :: st)) := by
  subst hp; exact Goes.fore (fun _ q => XS.ishl X.here hx rfl hd rfl q) k
theorem gIshr (X : Stand p l e R s m args below meth c T locs cells slots) (hx : p.tables.exec = Jvm.exec) {x y : Int32} (hd : decode c.code pc = .ok (.ishr, 1))  (hp : pc + 1 = pc') (k : Goes p e below F T (mkF m pc' ls (.int (x >>> (y &&& 31)) :: st))) : Goes p e below F T (mkF m pc ls (.int y :: .int x :: st)) := by
  subst hp; exact Goes.fore (fun _ q => XS.ishr X.here hx rfl hd rfl q) k
theorem gIushr (X : Stand p l e R s m args below meth c T locs cells slots) (hx : p.tables.exec = Jvm.exec) {x y : Int32} (hd : decode c.code pc = .ok (.iushr, 1))  (hp : pc + 1 = pc') (k : Goes p e below F T (mkF m pc' ls (.int ((x.toUInt32 >>> (y &&& 31).toUInt32).toInt32) :: st))) : Goes p e below F T (mkF m pc ls (.int y :: .int x :: st)) := by
  subst hp; exact Goes.fore (fun _ q => XS.iushr X.here hx rfl hd rfl q) k
theorem gLadd (X : Stand p l e R s m args below meth c T locs cells slots) (hx : p.tables.exec = Jvm.exec) {x y : Int64} (hd : decode c.code pc = .ok (.ladd, 1))  (hp : pc + 1 = pc') (k : Goes p e below F T (mkF m pc' ls (.long (x + y) :: st))) : Goes p e below F T (mkF m pc ls (.long y :: .long x :: st)) := by
  subst hp; exact Goes.fore (fun _ q => XS.ladd X.here hx rfl hd rfl q) k
theorem gLsub (X : Stand p l e R s m args below meth c T locs cells slots) (hx : p.tables.exec = Jvm.exec) {x y : Int64} (hd : decode c.code pc = .ok (.lsub, 1))  (hp : pc + 1 = pc') (k : Goes p e below F T (mkF m pc' ls (.long (x - y) :: st))) : Goes p e below F T (mkF m pc ls (.long y :: .long x :: st)) := by
  subst hp; exact Goes.fore (fun _ q => XS.lsub X.here hx rfl hd rfl q) k
theorem gLmul (X : Stand p l e R s m args below meth c T locs cells slots) (hx : p.tables.exec = Jvm.exec) {x y : Int64} (hd : decode c.code pc = .ok (.lmul, 1))  (hp : pc + 1 = pc') (k : Goes p e below F T (mkF m pc' ls (.long (x * y) :: st))) : Goes p e below F T (mkF m pc ls (.long y :: .long x :: st)) := by
  subst hp; exact Goes.fore (fun _ q => XS.lmul X.here hx rfl hd rfl q) k
theorem gLand (X : Stand p l e R s m args below meth c T locs cells slots) (hx : p.tables.exec = Jvm.exec) {x y : Int64} (hd : decode c.code pc = .ok (.land, 1))  (hp : pc + 1 = pc') (k : Goes p e below F T (mkF m pc' ls (.long (x &&& y) :: st))) : Goes p e below F T (mkF m pc ls (.long y :: .long x :: st)) := by
  subst hp; exact Goes.fore (fun _ q => XS.land X.here hx rfl hd rfl q) k
theorem gLor (X : Stand p l e R s m args below meth c T locs cells slots) (hx : p.tables.exec = Jvm.exec) {x y : Int64} (hd : decode c.code pc = .ok (.lor, 1))  (hp : pc + 1 = pc') (k : Goes p e below F T (mkF m pc' ls (.long (x ||| y) :: st))) : Goes p e below F T (mkF m pc ls (.long y :: .long x :: st)) := by
  subst hp; exact Goes.fore (fun _ q => XS.lor X.here hx rfl hd rfl q) k
theorem gLxor (X : Stand p l e R s m args below meth c T locs cells slots) (hx : p.tables.exec = Jvm.exec) {x y : Int64} (hd : decode c.code pc = .ok (.lxor, 1))  (hp : pc + 1 = pc') (k : Goes p e below F T (mkF m pc' ls (.long (x ^^^ y) :: st))) : Goes p e below F T (mkF m pc ls (.long y :: .long x :: st)) := by
  subst hp; exact Goes.fore (fun _ q => XS.lxor X.here hx rfl hd rfl q) k
theorem gLshl (X : Stand p l e R s m args below meth c T locs cells slots) (hx : p.tables.exec = Jvm.exec) {x : Int64} {y : Int32} (hd : decode c.code pc = .ok (.lshl, 1))  (hp : pc + 1 = pc') (k : Goes p e below F T (mkF m pc' ls (.long (x <<< (y &&& 0x3f).toInt64) :: st))) : Goes p e below F T (mkF m pc ls (.int y :: .long x :: st)) := by
  subst hp; exact Goes.fore (fun _ q => XS.lshl X.here hx rfl hd rfl q) k
theorem gLshr (X : Stand p l e R s m args below meth c T locs cells slots) (hx : p.tables.exec = Jvm.exec) {x : Int64} {y : Int32} (hd : decode c.code pc = .ok (.lshr, 1))  (hp : pc + 1 = pc') (k : Goes p e below F T (mkF m pc' ls (.long (x >>> (y &&& 0x3f).toInt64) :: st))) : Goes p e below F T (mkF m pc ls (.int y :: .long x :: st)) := by
  subst hp; exact Goes.fore (fun _ q => XS.lshr X.here hx rfl hd rfl q) k
theorem gLushr (X : Stand p l e R s m args below meth c T locs cells slots) (hx : p.tables.exec = Jvm.exec) {x : Int64} {y : Int32} (hd : decode c.code pc = .ok (.lushr, 1))  (hp : pc + 1 = pc') (k : Goes p e below F T (mkF m pc' ls (.long ((x.toUInt64 >>> (y &&& 0x3f).toInt64.toUInt64).toInt64) :: st))) : Goes p e below F T (mkF m pc ls (.int y :: .long x :: st)) := by
  subst hp; exact Goes.fore (fun _ q => XS.lushr X.here hx rfl hd rfl q) k
theorem gIdiv (X : Stand p l e R s m args below meth c T locs cells slots) (hx : p.tables.exec = Jvm.exec) {x y : Int32} (hd : decode c.code pc = .ok (.idiv, 1)) (hy : y ≠ 0) (hp : pc + 1 = pc') (k : Goes p e below F T (mkF m pc' ls (.int (x / y) :: st))) : Goes p e below F T (mkF m pc ls (.int y :: .int x :: st)) := by
  subst hp; exact Goes.fore (fun _ q => XS.idiv X.here hx rfl hd rfl hy q) k
theorem gIrem (X : Stand p l e R s m args below meth c T locs cells slots) (hx : p.tables.exec = Jvm.exec) {x y : Int32} (hd : decode c.code pc = .ok (.irem, 1)) (hy : y ≠ 0) (hp : pc + 1 = pc') (k : Goes p e below F T (mkF m pc' ls (.int (x % y) :: st))) : Goes p e below F T (mkF m pc ls (.int y :: .int x :: st)) := by
  subst hp; exact Goes.fore (fun _ q => iremM X hx rfl hd rfl hy q) k
theorem gIneg (X : Stand p l e R s m args below meth c T locs cells slots) (hx : p.tables.exec = Jvm.exec) {x : Int32} (hd : decode c.code pc = .ok (.ineg, 1))  (hp : pc + 1 = pc') (k : Goes p e below F T (mkF m pc' ls (.int (-x) :: st))) : Goes p e below F T (mkF m pc ls (.int x :: st)) := by
  subst hp; exact Goes.fore (fun _ q => XS.ineg X.here hx rfl hd rfl q) k
theorem gLneg (X : Stand p l e R s m args below meth c T locs cells slots) (hx : p.tables.exec = Jvm.exec) {x : Int64} (hd : decode c.code pc = .ok (.lneg, 1))  (hp : pc + 1 = pc') (k : Goes p e below F T (mkF m pc' ls (.long (-x) :: st))) : Goes p e below F T (mkF m pc ls (.long x :: st)) := by
  subst hp; exact Goes.fore (fun _ q => XS.lneg X.here hx rfl hd rfl q) k
theorem gI2l (X : Stand p l e R s m args below meth c T locs cells slots) (hx : p.tables.exec = Jvm.exec) {x : Int32} (hd : decode c.code pc = .ok (.i2l, 1))  (hp : pc + 1 = pc') (k : Goes p e below F T (mkF m pc' ls (.long (x.toInt64) :: st))) : Goes p e below F T (mkF m pc ls (.int x :: st)) := by
  subst hp; exact Goes.fore (fun _ q => XS.i2l X.here hx rfl hd rfl q) k
theorem gL2i (X : Stand p l e R s m args below meth c T locs cells slots) (hx : p.tables.exec = Jvm.exec) {x : Int64} (hd : decode c.code pc = .ok (.l2i, 1))  (hp : pc + 1 = pc') (k : Goes p e below F T (mkF m pc' ls (.int (x.toInt32) :: st))) : Goes p e below F T (mkF m pc ls (.long x :: st)) := by
  subst hp; exact Goes.fore (fun _ q => XS.l2i X.here hx rfl hd rfl q) k
theorem gI2b (X : Stand p l e R s m args below meth c T locs cells slots) (hx : p.tables.exec = Jvm.exec) {x : Int32} (hd : decode c.code pc = .ok (.i2b, 1))  (hp : pc + 1 = pc') (k : Goes p e below F T (mkF m pc' ls (.int (x.toInt8.toInt32) :: st))) : Goes p e below F T (mkF m pc ls (.int x :: st)) := by
  subst hp; exact Goes.fore (fun _ q => XS.i2b X.here hx rfl hd rfl q) k
theorem gI2c (X : Stand p l e R s m args below meth c T locs cells slots) (hx : p.tables.exec = Jvm.exec) {x : Int32} (hd : decode c.code pc = .ok (.i2c, 1))  (hp : pc + 1 = pc') (k : Goes p e below F T (mkF m pc' ls (.int (x.toUInt32.toUInt16.toUInt32.toInt32) :: st))) : Goes p e below F T (mkF m pc ls (.int x :: st)) := by
  subst hp; exact Goes.fore (fun _ q => XS.i2c X.here hx rfl hd rfl q) k
theorem gI2s (X : Stand p l e R s m args below meth c T locs cells slots) (hx : p.tables.exec = Jvm.exec) {x : Int32} (hd : decode c.code pc = .ok (.i2s, 1))  (hp : pc + 1 = pc') (k : Goes p e below F T (mkF m pc' ls (.int (x.toInt16.toInt32) :: st))) : Goes p e below F T (mkF m pc ls (.int x :: st)) := by
  subst hp; exact Goes.fore (fun _ q => XS.i2s X.here hx rfl hd rfl q) k
theorem gLcmp (X : Stand p l e R s m args below meth c T locs cells slots) (hx : p.tables.exec = Jvm.exec) {x y : Int64} (hd : decode c.code pc = .ok (.lcmp, 1))  (hp : pc + 1 = pc') (k : Goes p e below F T (mkF m pc' ls (.int (lcmpW x y) :: st))) : Goes p e below F T (mkF m pc ls (.long y :: .long x :: st)) := by
  subst hp; exact Goes.fore (fun _ q => XS.lcmp X.here hx rfl hd rfl q) k
theorem gIinc (X : Stand p l e R s m args below meth c T locs cells slots) (hx : p.tables.exec = Jvm.exec) {k : Nat} {i : Int} {x v : Int32} {l' : Array Slot} (hd : decode c.code pc = .ok (.iinc k i, 3)) (hv : Int32.ofInt i = v) (hl : ls[k]? = some (.val (.int x))) (hl' : storeLocals ls k (.int (x + v)) = some l') (hp : pc + 3 = pc') (k : Goes p e below F T (mkF m pc' l' st)) : Goes p e below F T (mkF m pc ls st) := by
  subst hp; exact Goes.fore (fun _ q => XT.iincV X.here hx rfl v hd hv hl hl' q) k
theorem gDup (X : Stand p l e R s m args below meth c T locs cells slots) (hx : p.tables.exec = Jvm.exec) {v : Value} (hd : decode c.code pc = .ok (.dup, 1)) (hv : v.category = 1) (hp : pc + 1 = pc') (k : Goes p e below F T (mkF m pc' ls (v :: v :: st))) : Goes p e below F T (mkF m pc ls (v :: st)) := by
  subst hp; exact Goes.fore (fun _ q => XS.dup X.here hx rfl hd rfl hv q) k
theorem gPop (X : Stand p l e R s m args below meth c T locs cells slots) (hx : p.tables.exec = Jvm.exec) {v : Value} (hd : decode c.code pc = .ok (.pop, 1)) (hv : v.category = 1) (hp : pc + 1 = pc') (k : Goes p e below F T (mkF m pc' ls st)) : Goes p e below F T (mkF m pc ls (v :: st)) := by
  subst hp; exact Goes.fore (fun _ q => XS.pop X.here hx rfl hd rfl hv q) k
theorem gDupX1 (X : Stand p l e R s m args below meth c T locs cells slots) (hx : p.tables.exec = Jvm.exec) {v w : Value} (hd : decode c.code pc = .ok (.dup_x1, 1)) (hv : v.category = 1) (hw : w.category = 1) (hp : pc + 1 = pc') (k : Goes p e below F T (mkF m pc' ls (v :: w :: v :: st))) : Goes p e below F T (mkF m pc ls (v :: w :: st)) := by
  subst hp; exact Goes.fore (fun _ q => XS.dupX1 X.here hx rfl hd rfl hv hw q) k
theorem gDup2 (X : Stand p l e R s m args below meth c T locs cells slots) (hx : p.tables.exec = Jvm.exec) {v w : Value} (hd : decode c.code pc = .ok (.dup2, 1)) (hv : v.category = 1) (hw : w.category = 1) (hp : pc + 1 = pc') (k : Goes p e below F T (mkF m pc' ls (v :: w :: v :: w :: st))) : Goes p e below F T (mkF m pc ls (v :: w :: st)) := by
  subst hp; exact Goes.fore (fun _ q => XT.dup2 X.here hx rfl hd rfl hv hw q) k
theorem gGoto (X : Stand p l e R s m args below meth c T locs cells slots) (hx : p.tables.exec = Jvm.exec) {o : Int} (hd : decode c.code pc = .ok (.goto o, 3)) (ho : 0 ≤ (pc : Int) + o) (hp : ((pc : Int) + o).toNat = pc') (k : Goes p e below F T (mkF m pc' ls st)) : Goes p e below F T (mkF m pc ls st) := Goes.fore (fun _ q => XS.goto X.here hx rfl rfl hd ho hp q) k
theorem gIcmp (X : Stand p l e R s m args below meth c T locs cells slots) (hx : p.tables.exec = Jvm.exec) {cd : ClassFile.Cond} {o : Int} {x y : Int32} {pn : Nat} (hd : decode c.code pc = .ok (.if_icmp cd o, 3)) (ho : 0 ≤ (pc : Int) + o) (hp : ((pc : Int) + o).toNat = pc') (hn : pc + 3 = pn) (kY : if_icmp.holds cd x y = true → Goes p e below F T (mkF m pc' ls st)) (kN : if_icmp.holds cd x y = false → Goes p e below F T (mkF m pn ls st)) : Goes p e below F T (mkF m pc ls (.int y :: .int x :: st)) := by
  subst hn
  cases hb : if_icmp.holds cd x y
  · exact Goes.fore (fun _ q => XS.icmpNo X.here hx rfl hd rfl hb q) (kN hb)
  · exact Goes.fore (fun _ q => XS.icmpYes X.here hx rfl rfl hd rfl hb ho hp q) (kY hb)
theorem gIf (X : Stand p l e R s m args below meth c T locs cells slots) (hx : p.tables.exec = Jvm.exec) {cd : ClassFile.Cond} {o : Int} {x : Int32} {pn : Nat} (hd : decode c.code pc = .ok (.ifCond cd o, 3)) (ho : 0 ≤ (pc : Int) + o) (hp : ((pc : Int) + o).toNat = pc') (hn : pc + 3 = pn) (kY : ifCond.holds cd x = true → Goes p e below F T (mkF m pc' ls st)) (kN : ifCond.holds cd x = false → Goes p e below F T (mkF m pn ls st)) : Goes p e below F T (mkF m pc ls (.int x :: st)) := by
  subst hn
  cases hb : ifCond.holds cd x
  · exact Goes.fore (fun _ q => XS.ifNo X.here hx rfl hd rfl hb q) (kN hb)
  · exact Goes.fore (fun _ q => XS.ifYes X.here hx rfl rfl hd rfl hb ho hp q) (kY hb)
theorem gIcmpEq (X : Stand p l e R s m args below meth c T locs cells slots) (hx : p.tables.exec = Jvm.exec) {o : Int} {x y : Int32} {pn : Nat} (hd : decode c.code pc = .ok (.if_icmp .eq o, 3)) (ho : 0 ≤ (pc : Int) + o) (hp : ((pc : Int) + o).toNat = pc') (hn : pc + 3 = pn) (kY : x = y → Goes p e below F T (mkF m pc' ls st)) (kN : ¬ x = y → Goes p e below F T (mkF m pn ls st)) : Goes p e below F T (mkF m pc ls (.int y :: .int x :: st)) :=
  gIcmp X hx hd ho hp hn (fun q => kY (by simpa [if_icmp.holds, Int32.lt_iff_toInt_lt, Int32.le_iff_toInt_le] using q)) (fun q => kN (by simpa [if_icmp.holds, Int32.lt_iff_toInt_lt, Int32.le_iff_toInt_le] using q))
theorem gIfEq (X : Stand p l e R s m args below meth c T locs cells slots) (hx : p.tables.exec = Jvm.exec) {o : Int} {x : Int32} {pn : Nat} (hd : decode c.code pc = .ok (.ifCond .eq o, 3)) (ho : 0 ≤ (pc : Int) + o) (hp : ((pc : Int) + o).toNat = pc') (hn : pc + 3 = pn) (kY : x = 0 → Goes p e below F T (mkF m pc' ls st)) (kN : ¬ x = 0 → Goes p e below F T (mkF m pn ls st)) : Goes p e below F T (mkF m pc ls (.int x :: st)) :=
  gIf X hx hd ho hp hn (fun q => kY (by simpa [ifCond.holds, Int32.lt_iff_toInt_lt, Int32.le_iff_toInt_le] using q)) (fun q => kN (by simpa [ifCond.holds, Int32.lt_iff_toInt_lt, Int32.le_iff_toInt_le] using q))
theorem gIcmpNe (X : Stand p l e R s m args below meth c T locs cells slots) (hx : p.tables.exec = Jvm.exec) {o : Int} {x y : Int32} {pn : Nat} (hd : decode c.code pc = .ok (.if_icmp .ne o, 3)) (ho : 0 ≤ (pc : Int) + o) (hp : ((pc : Int) + o).toNat = pc') (hn : pc + 3 = pn) (kY : ¬ x = y → Goes p e below F T (mkF m pc' ls st)) (kN : x = y → Goes p e below F T (mkF m pn ls st)) : Goes p e below F T (mkF m pc ls (.int y :: .int x :: st)) :=
  gIcmp X hx hd ho hp hn (fun q => kY (by simpa [if_icmp.holds, Int32.lt_iff_toInt_lt, Int32.le_iff_toInt_le] using q)) (fun q => kN (by simpa [if_icmp.holds, Int32.lt_iff_toInt_lt, Int32.le_iff_toInt_le] using q))
theorem gIfNe (X : Stand p l e R s m args below meth c T locs cells slots) (hx : p.tables.exec = Jvm.exec) {o : Int} {x : Int32} {pn : Nat} (hd : decode c.code pc = .ok (.ifCond .ne o, 3)) (ho : 0 ≤ (pc : Int) + o) (hp : ((pc : Int) + o).toNat = pc') (hn : pc + 3 = pn) (kY : ¬ x = 0 → Goes p e below F T (mkF m pc' ls st)) (kN : x = 0 → Goes p e below F T (mkF m pn ls st)) : Goes p e below F T (mkF m pc ls (.int x :: st)) :=
  gIf X hx hd ho hp hn (fun q => kY (by simpa [ifCond.holds, Int32.lt_iff_toInt_lt, Int32.le_iff_toInt_le] using q)) (fun q => kN (by simpa [ifCond.holds, Int32.lt_iff_toInt_lt, Int32.le_iff_toInt_le] using q))
theorem gIcmpLt (X : Stand p l e R s m args below meth c T locs cells slots) (hx : p.tables.exec = Jvm.exec) {o : Int} {x y : Int32} {pn : Nat} (hd : decode c.code pc = .ok (.if_icmp .lt o, 3)) (ho : 0 ≤ (pc : Int) + o) (hp : ((pc : Int) + o).toNat = pc') (hn : pc + 3 = pn) (kY : x.toInt < y.toInt → Goes p e below F T (mkF m pc' ls st)) (kN : y.toInt ≤ x.toInt → Goes p e below F T (mkF m pn ls st)) : Goes p e below F T (mkF m pc ls (.int y :: .int x :: st)) :=
  gIcmp X hx hd ho hp hn (fun q => kY (by simpa [if_icmp.holds, Int32.lt_iff_toInt_lt, Int32.le_iff_toInt_le] using q)) (fun q => kN (by simpa [if_icmp.holds, Int32.lt_iff_toInt_lt, Int32.le_iff_toInt_le] using q))
theorem gIfLt (X : Stand p l e R s m args below meth c T locs cells slots) (hx : p.tables.exec = Jvm.exec) {o : Int} {x : Int32} {pn : Nat} (hd : decode c.code pc = .ok (.ifCond .lt o, 3)) (ho : 0 ≤ (pc : Int) + o) (hp : ((pc : Int) + o).toNat = pc') (hn : pc + 3 = pn) (kY : x.toInt < (0 : Int) → Goes p e below F T (mkF m pc' ls st)) (kN : (0 : Int) ≤ x.toInt → Goes p e below F T (mkF m pn ls st)) : Goes p e below F T (mkF m pc ls (.int x :: st)) :=
  gIf X hx hd ho hp hn (fun q => kY (by simpa [ifCond.holds, Int32.lt_iff_toInt_lt, Int32.le_iff_toInt_le] using q)) (fun q => kN (by simpa [ifCond.holds, Int32.lt_iff_toInt_lt, Int32.le_iff_toInt_le] using q))
theorem gIcmpGe (X : Stand p l e R s m args below meth c T locs cells slots) (hx : p.tables.exec = Jvm.exec) {o : Int} {x y : Int32} {pn : Nat} (hd : decode c.code pc = .ok (.if_icmp .ge o, 3)) (ho : 0 ≤ (pc : Int) + o) (hp : ((pc : Int) + o).toNat = pc') (hn : pc + 3 = pn) (kY : y.toInt ≤ x.toInt → Goes p e below F T (mkF m pc' ls st)) (kN : x.toInt < y.toInt → Goes p e below F T (mkF m pn ls st)) : Goes p e below F T (mkF m pc ls (.int y :: .int x :: st)) :=
  gIcmp X hx hd ho hp hn (fun q => kY (by simpa [if_icmp.holds, Int32.lt_iff_toInt_lt, Int32.le_iff_toInt_le] using q)) (fun q => kN (by simpa [if_icmp.holds, Int32.lt_iff_toInt_lt, Int32.le_iff_toInt_le] using q))
theorem gIfGe (X : Stand p l e R s m args below meth c T locs cells slots) (hx : p.tables.exec = Jvm.exec) {o : Int} {x : Int32} {pn : Nat} (hd : decode c.code pc = .ok (.ifCond .ge o, 3)) (ho : 0 ≤ (pc : Int) + o) (hp : ((pc : Int) + o).toNat = pc') (hn : pc + 3 = pn) (kY : (0 : Int) ≤ x.toInt → Goes p e below F T (mkF m pc' ls st)) (kN : x.toInt < (0 : Int) → Goes p e below F T (mkF m pn ls st)) : Goes p e below F T (mkF m pc ls (.int x :: st)) :=
  gIf X hx hd ho hp hn (fun q => kY (by simpa [ifCond.holds, Int32.lt_iff_toInt_lt, Int32.le_iff_toInt_le] using q)) (fun q => kN (by simpa [ifCond.holds, Int32.lt_iff_toInt_lt, Int32.le_iff_toInt_le] using q))
theorem gIcmpGt (X : Stand p l e R s m args below meth c T locs cells slots) (hx : p.tables.exec = Jvm.exec) {o : Int} {x y : Int32} {pn : Nat} (hd : decode c.code pc = .ok (.if_icmp .gt o, 3)) (ho : 0 ≤ (pc : Int) + o) (hp : ((pc : Int) + o).toNat = pc') (hn : pc + 3 = pn) (kY : y.toInt < x.toInt → Goes p e below F T (mkF m pc' ls st)) (kN : x.toInt ≤ y.toInt → Goes p e below F T (mkF m pn ls st)) : Goes p e below F T (mkF m pc ls (.int y :: .int x :: st)) :=
  gIcmp X hx hd ho hp hn (fun q => kY (by simpa [if_icmp.holds, Int32.lt_iff_toInt_lt, Int32.le_iff_toInt_le] using q)) (fun q => kN (by simpa [if_icmp.holds, Int32.lt_iff_toInt_lt, Int32.le_iff_toInt_le] using q))
theorem gIfGt (X : Stand p l e R s m args below meth c T locs cells slots) (hx : p.tables.exec = Jvm.exec) {o : Int} {x : Int32} {pn : Nat} (hd : decode c.code pc = .ok (.ifCond .gt o, 3)) (ho : 0 ≤ (pc : Int) + o) (hp : ((pc : Int) + o).toNat = pc') (hn : pc + 3 = pn) (kY : (0 : Int) < x.toInt → Goes p e below F T (mkF m pc' ls st)) (kN : x.toInt ≤ (0 : Int) → Goes p e below F T (mkF m pn ls st)) : Goes p e below F T (mkF m pc ls (.int x :: st)) :=
  gIf X hx hd ho hp hn (fun q => kY (by simpa [ifCond.holds, Int32.lt_iff_toInt_lt, Int32.le_iff_toInt_le] using q)) (fun q => kN (by simpa [ifCond.holds, Int32.lt_iff_toInt_lt, Int32.le_iff_toInt_le] using q))
theorem gIcmpLe (X : Stand p l e R s m args below meth c T locs cells slots) (hx : p.tables.exec = Jvm.exec) {o : Int} {x y : Int32} {pn : Nat} (hd : decode c.code pc = .ok (.if_icmp .le o, 3)) (ho : 0 ≤ (pc : Int) + o) (hp : ((pc : Int) + o).toNat = pc') (hn : pc + 3 = pn) (kY : x.toInt ≤ y.toInt → Goes p e below F T (mkF m pc' ls st)) (kN : y.toInt < x.toInt → Goes p e below F T (mkF m pn ls st)) : Goes p e below F T (mkF m pc ls (.int y :: .int x :: st)) :=
  gIcmp X hx hd ho hp hn (fun q => kY (by simpa [if_icmp.holds, Int32.lt_iff_toInt_lt, Int32.le_iff_toInt_le] using q)) (fun q => kN (by simpa [if_icmp.holds, Int32.lt_iff_toInt_lt, Int32.le_iff_toInt_le] using q))
theorem gIfLe (X : Stand p l e R s m args below meth c T locs cells slots) (hx : p.tables.exec = Jvm.exec) {o : Int} {x : Int32} {pn : Nat} (hd : decode c.code pc = .ok (.ifCond .le o, 3)) (ho : 0 ≤ (pc : Int) + o) (hp : ((pc : Int) + o).toNat = pc') (hn : pc + 3 = pn) (kY : x.toInt ≤ (0 : Int) → Goes p e below F T (mkF m pc' ls st)) (kN : (0 : Int) < x.toInt → Goes p e below F T (mkF m pn ls st)) : Goes p e below F T (mkF m pc ls (.int x :: st)) :=
  gIf X hx hd ho hp hn (fun q => kY (by simpa [ifCond.holds, Int32.lt_iff_toInt_lt, Int32.le_iff_toInt_le] using q)) (fun q => kN (by simpa [ifCond.holds, Int32.lt_iff_toInt_lt, Int32.le_iff_toInt_le] using q))
theorem gIcmpEqT (X : Stand p l e R s m args below meth c T locs cells slots) (hx : p.tables.exec = Jvm.exec) {o : Int} {x y : Int32} {pn : Nat} (hd : decode c.code pc = .ok (.if_icmp .eq o, 3)) (ho : 0 ≤ (pc : Int) + o) (hp : ((pc : Int) + o).toNat = pc') (hn : pc + 3 = pn) (kY : x.toInt = y.toInt → Goes p e below F T (mkF m pc' ls st)) (kN : ¬ x.toInt = y.toInt → Goes p e below F T (mkF m pn ls st)) : Goes p e below F T (mkF m pc ls (.int y :: .int x :: st)) :=
  gIcmpEq X hx hd ho hp hn (fun q => kY ((Int32.toInt_inj (x := x) (y := y)).mpr q)) (fun q => kN (fun z => q ((Int32.toInt_inj (x := x) (y := y)).mp z)))
theorem gIfEqT (X : Stand p l e R s m args below meth c T locs cells slots) (hx : p.tables.exec = Jvm.exec) {o : Int} {x : Int32} {pn : Nat} (hd : decode c.code pc = .ok (.ifCond .eq o, 3)) (ho : 0 ≤ (pc : Int) + o) (hp : ((pc : Int) + o).toNat = pc') (hn : pc + 3 = pn) (kY : x.toInt = (0 : Int) → Goes p e below F T (mkF m pc' ls st)) (kN : ¬ x.toInt = (0 : Int) → Goes p e below F T (mkF m pn ls st)) : Goes p e below F T (mkF m pc ls (.int x :: st)) :=
  gIfEq X hx hd ho hp hn (fun q => kY ((Int32.toInt_inj (x := x) (y := 0)).mpr q)) (fun q => kN (fun z => q ((Int32.toInt_inj (x := x) (y := 0)).mp z)))
theorem gIcmpNeT (X : Stand p l e R s m args below meth c T locs cells slots) (hx : p.tables.exec = Jvm.exec) {o : Int} {x y : Int32} {pn : Nat} (hd : decode c.code pc = .ok (.if_icmp .ne o, 3)) (ho : 0 ≤ (pc : Int) + o) (hp : ((pc : Int) + o).toNat = pc') (hn : pc + 3 = pn) (kY : ¬ x.toInt = y.toInt → Goes p e below F T (mkF m pc' ls st)) (kN : x.toInt = y.toInt → Goes p e below F T (mkF m pn ls st)) : Goes p e below F T (mkF m pc ls (.int y :: .int x :: st)) :=
  gIcmpNe X hx hd ho hp hn (fun q => kY (fun z => q ((Int32.toInt_inj (x := x) (y := y)).mp z))) (fun q => kN ((Int32.toInt_inj (x := x) (y := y)).mpr q))
theorem gIfNeT (X : Stand p l e R s m args below meth c T locs cells slots) (hx : p.tables.exec = Jvm.exec) {o : Int} {x : Int32} {pn : Nat} (hd : decode c.code pc = .ok (.ifCond .ne o, 3)) (ho : 0 ≤ (pc : Int) + o) (hp : ((pc : Int) + o).toNat = pc') (hn : pc + 3 = pn) (kY : ¬ x.toInt = (0 : Int) → Goes p e below F T (mkF m pc' ls st)) (kN : x.toInt = (0 : Int) → Goes p e below F T (mkF m pn ls st)) : Goes p e below F T (mkF m pc ls (.int x :: st)) :=
  gIfNe X hx hd ho hp hn (fun q => kY (fun z => q ((Int32.toInt_inj (x := x) (y := 0)).mp z))) (fun q => kN ((Int32.toInt_inj (x := x) (y := 0)).mpr q))
theorem gAcmp (X : Stand p l e R s m args below meth c T locs cells slots) (hx : p.tables.exec = Jvm.exec) {cd : ClassFile.ACond} {o : Int} {x y : Value} {pn : Nat} (hd : decode c.code pc = .ok (.if_acmp cd o, 3)) (h1 : x.isRef = true) (h2 : y.isRef = true) (ho : 0 ≤ (pc : Int) + o) (hp : ((pc : Int) + o).toNat = pc') (hn : pc + 3 = pn) (kS : x = y → Goes p e below F T (mkF m (match cd with | .eq => pc' | .ne => pn) ls st)) (kD : ¬ x = y → Goes p e below F T (mkF m (match cd with | .eq => pn | .ne => pc') ls st)) : Goes p e below F T (mkF m pc ls (y :: x :: st)) := by
  subst hn hp
  by_cases q : x = y
  · refine Goes.fore (fun _ k => acmp X hx rfl h1 h2 (same := true) rfl hd rfl (decide_eq_true q) ho rfl k) ?_
    have := kS q; cases cd <;> simpa [acV] using this
  · refine Goes.fore (fun _ k => acmp X hx rfl h1 h2 (same := false) rfl hd rfl (decide_eq_false q) ho rfl k) ?_
    have := kD q; cases cd <;> simpa [acV] using this
theorem gAcmpEq (X : Stand p l e R s m args below meth c T locs cells slots) (hx : p.tables.exec = Jvm.exec) {o : Int} {x y : Value} {pn : Nat} (hd : decode c.code pc = .ok (.if_acmp .eq o, 3)) (h1 : x.isRef = true) (h2 : y.isRef = true) (ho : 0 ≤ (pc : Int) + o) (hp : ((pc : Int) + o).toNat = pc') (hn : pc + 3 = pn) (kY : x = y → Goes p e below F T (mkF m pc' ls st)) (kN : ¬ x = y → Goes p e below F T (mkF m pn ls st)) : Goes p e below F T (mkF m pc ls (y :: x :: st)) := gAcmp X hx hd h1 h2 ho hp hn kY kN
theorem gAcmpNe (X : Stand p l e R s m args below meth c T locs cells slots) (hx : p.tables.exec = Jvm.exec) {o : Int} {x y : Value} {pn : Nat} (hd : decode c.code pc = .ok (.if_acmp .ne o, 3)) (h1 : x.isRef = true) (h2 : y.isRef = true) (ho : 0 ≤ (pc : Int) + o) (hp : ((pc : Int) + o).toNat = pc') (hn : pc + 3 = pn) (kY : ¬ x = y → Goes p e below F T (mkF m pc' ls st)) (kN : x = y → Goes p e below F T (mkF m pn ls st)) : Goes p e below F T (mkF m pc ls (y :: x :: st)) := gAcmp X hx hd h1 h2 ho hp hn kN kY
theorem gIfnullZ (X : Stand p l e R s m args below meth c T locs cells slots) (hx : p.tables.exec = Jvm.exec) {o : Int} (hd : decode c.code pc = .ok (.ifnull o, 3)) (ho : 0 ≤ (pc : Int) + o) (hp : ((pc : Int) + o).toNat = pc') (k : Goes p e below F T (mkF m pc' ls st)) : Goes p e below F T (mkF m pc ls (.null :: st)) := Goes.fore (fun _ q => XS.ifnullYes X.here hx rfl rfl hd rfl ho hp q) k
theorem gIfnullR (X : Stand p l e R s m args below meth c T locs cells slots) (hx : p.tables.exec = Jvm.exec) {o : Int} {b : Addr} (hd : decode c.code pc = .ok (.ifnull o, 3)) (hp : pc + 3 = pc') (k : Goes p e below F T (mkF m pc' ls st)) : Goes p e below F T (mkF m pc ls (.ref b :: st)) := by
  subst hp; exact Goes.fore (fun _ q => XS.ifnullNo X.here hx rfl hd rfl q) k
theorem gIfnonnullZ (X : Stand p l e R s m args below meth c T locs cells slots) (hx : p.tables.exec = Jvm.exec) {o : Int} (hd : decode c.code pc = .ok (.ifnonnull o, 3)) (hp : pc + 3 = pc') (k : Goes p e below F T (mkF m pc' ls st)) : Goes p e below F T (mkF m pc ls (.null :: st)) := by
  subst hp; exact Goes.fore (fun _ q => XS.ifnonnullNo X.here hx rfl hd rfl q) k
theorem gIfnonnullR (X : Stand p l e R s m args below meth c T locs cells slots) (hx : p.tables.exec = Jvm.exec) {o : Int} {b : Addr} (hd : decode c.code pc = .ok (.ifnonnull o, 3)) (ho : 0 ≤ (pc : Int) + o) (hp : ((pc : Int) + o).toNat = pc') (k : Goes p e below F T (mkF m pc' ls st)) : Goes p e below F T (mkF m pc ls (.ref b :: st)) := Goes.fore (fun _ q => XS.ifnonnullYes X.here hx rfl rfl hd rfl ho hp q) k
theorem gRet0 {v : Option Value} (X : Stand p l e R s m args below meth c T locs cells slots) (hx : p.tables.exec = Jvm.exec) (hlk : meth.locks = false) (hv : meth.sig.returnType = none → v = none) (hk : cells ≤ kc) (hs : slots ≤ ks) (hq : Q v T.heap locs) {g : JFrame}
    (k : ∀ fs, (∀ (f : JFrame) (acts : List Action), f.method = m → f.locked = none → f.entered = [] → (doReturn e (T.setTop f) acts v).1 = T.setFrames fs) → Steps p.tables e below (T.setTop g) (T.setFrames fs)) : Goes p e below (FinN s kc ks Q) T g := by
  obtain ⟨fs, hr, hrun, hended, hW, hsame⟩ := X.leave hv hlk
  exact ⟨_, _, k fs hr, hrun, hended, _, _, rfl, hq, ⟨_, rfl⟩, hW, hsame.mono hk hs⟩
theorem gRetV (X : Stand p l e R s m args below meth c T locs cells slots) (hx : p.tables.exec = Jvm.exec) (hlk : meth.locks = false) (hret : meth.sig.returnType = none) (hd : decode c.code pc = .ok (.return_, 1)) (hk : cells ≤ kc) (hs : slots ≤ ks) (hq : Q none T.heap locs) : Goes p e below (FinN s kc ks Q) T (mkF m pc ls []) :=
  gRet0 X hx hlk (fun _ => rfl) hk hs hq fun fs hr => X.returnOut hx hret hd hr
theorem gRetN (X : Stand p l e R s m args below meth c T locs cells slots) (hx : p.tables.exec = Jvm.exec) (hlk : meth.locks = false) {t : FieldType} (hret : meth.sig.returnType = some t) (ht : t = .boolean ∨ t = .byte ∨ t = .char ∨ t = .short) {z w : Int32} (hd : decode c.code pc = .ok (.ireturn, 1)) (hw : nar t z = w) (hk : cells ≤ kc) (hs : slots ≤ ks) (hq : Q (some (.int w)) T.heap locs) : Goes p e below (FinN s kc ks Q) T (mkF m pc ls (.int z :: st)) := by
  subst hw
  exact gRet0 X hx hlk (fun h => by rw [hret] at h; cases h) hk hs hq fun fs hr => retN X hx hret ht hd hr
theorem gRetI (X : Stand p l e R s m args below meth c T locs cells slots) (hx : p.tables.exec = Jvm.exec) (hlk : meth.locks = false) (hret : meth.sig.returnType = some .int) {z : Int32} (hd : decode c.code pc = .ok (.ireturn, 1)) (hk : cells ≤ kc) (hs : slots ≤ ks) (hq : Q (some (.int z)) T.heap locs) : Goes p e below (FinN s kc ks Q) T (mkF m pc ls (.int z :: st)) :=
  gRet0 X hx hlk (fun h => by rw [hret] at h; cases h) hk hs hq fun fs hr => retOut X hx hret rfl (Or.inl ⟨rfl, Or.inl rfl, z, rfl⟩) hd hr
theorem gRetJ (X : Stand p l e R s m args below meth c T locs cells slots) (hx : p.tables.exec = Jvm.exec) (hlk : meth.locks = false) (hret : meth.sig.returnType = some .long) {z : Int64} (hd : decode c.code pc = .ok (.lreturn, 1)) (hk : cells ≤ kc) (hs : slots ≤ ks) (hq : Q (some (.long z)) T.heap locs) : Goes p e below (FinN s kc ks Q) T (mkF m pc ls (.long z :: st)) :=
  gRet0 X hx hlk (fun h => by rw [hret] at h; cases h) hk hs hq fun fs hr => retOut X hx hret rfl (Or.inr (Or.inl ⟨rfl, rfl, z, rfl⟩)) hd hr
theorem gRetA (X : Stand p l e R s m args below meth c T locs cells slots) (hx : p.tables.exec = Jvm.exec) (hlk : meth.locks = false) {t : FieldType} (hret : meth.sig.returnType = some t) (ht : t.isReference = true) {v : Value} (hv : v.isRef = true) (hd : decode c.code pc = .ok (.areturn, 1)) (hk : cells ≤ kc) (hs : slots ≤ ks) (hq : Q (some v) T.heap locs) : Goes p e below (FinN s kc ks Q) T (mkF m pc ls (v :: st)) :=
  gRet0 X hx hlk (fun h => by rw [hret] at h; cases h) hk hs hq fun fs hr => retOut X hx hret (by cases t <;> first | rfl | cases ht) (Or.inr (Or.inr (Or.inr (Or.inr ⟨rfl, ht, hv⟩)))) hd hr
theorem gGetS (X : Stand p l e R s m args below meth c T locs cells slots) (hx : p.tables.exec = Jvm.exec) (hZ : Z.Warmed39 s.vm) {own R0 O n d : String} {i : Nat} (hown : s.vm.findClass own = some m.cls) (w : (Jvm.Cond.fieldLink own i R0 n d).before a0 Z = true) (via : Via Z R0 O n d) (eT : T.heap = h) {v : Value} (Fa : Sta Z h O n d v) (hd : decode c.code pc = .ok (.getstatic i, 3)) (hp : pc + 3 = pc')
    (k : ∀ T', Stand p l e R s m args below meth c T' locs cells slots → T'.heap = h → Goes p e below F T' (mkF m pc' ls (v :: st))) : Goes p e below F T (mkF m pc ls st) := by
  subst hp
  obtain ⟨T', X', e', st'⟩ := getS X hx hZ (host := "") hown w via eT Fa (g := mkF m pc ls st) rfl hd
  exact Goes.fore st' (k T' X' e')
theorem gGetF (X : Stand p l e R s m args below meth c T locs cells slots) (hx : p.tables.exec = Jvm.exec) (hZ : Z.Warmed39 s.vm) {own R0 O n d : String} {i : Nat} (hown : s.vm.findClass own = some m.cls) (w : (Jvm.Cond.fieldLink own i R0 n d).before a0 Z = true) (via : Via Z R0 O n d) (eT : T.heap = h) {a : Addr} {v : Value} (Fa : Fld Z h a O n d v) (hd : decode c.code pc = .ok (.getfield i, 3)) (hp : pc + 3 = pc')
    (k : ∀ T', Stand p l e R s m args below meth c T' locs cells slots → T'.heap = h → Goes p e below F T' (mkF m pc' ls (v :: st))) : Goes p e below F T (mkF m pc ls (.ref a :: st)) := by
  subst hp
  obtain ⟨T', X', e', st'⟩ := getF X hx hZ (host := "") hown (Or.inl w) via eT Fa (g := mkF m pc ls (.ref a :: st)) rfl rfl hd
  exact Goes.fore st' (k T' X' e')
theorem gCallS (X : Stand p l e R s m args below meth c T locs cells slots) (hx : p.tables.exec = Jvm.exec) (hZ : Z.Warmed39 s.vm) {y : MethodName} {bytes : ByteArray} {maxL : Nat} {ret : Option FieldType} {rm : Room} {own : String} {i : Nat} {Qc : Option Value → Heap → List Loc → Prop} (hown : s.vm.findClass own = some m.cls) (eT : T.heap = h) (hml : ls.size = c.maxLocals)
    (w1 : (Jvm.Cond.methodLink own i y).before a0 Z = true) (w2 : (Jvm.Cond.static y).before a0 Z = true) (w3 : (Jvm.Cond.initialized y.cls).before a0 Z = true) (w4 : (Jvm.Cond.code y bytes maxL ret).before a0 Z = true) (hy : y.cls ≠ "java/lang/invoke/MethodHandle" ∧ y.cls ≠ "java/lang/invoke/VarHandle")
    {argsL : List Value} {stk : List Value} (hC : Ctr l Z y bytes maxL ret [] rm argsL.toArray h Qc) (hlen : ∀ sig, parseMethodDescriptor y.desc = some sig → argsL.length = sig.parameters.length) (hd : decode c.code pc = .ok (.invokestatic i, 3)) (hp : pc + 3 = pc') (hst : stk = argsL.reverse ++ st)
    (hf : rm.frames + 1 ≤ R.frames) {W : Nat} (hW : (st.map fun v => v.category).sum ≤ W) (hlo : W + (maxL + 11) + rm.locals ≤ R.locals) (hce : cells + rm.cells ≤ R.cells) (hsl : slots + rm.slots ≤ R.slots)
    (k : ∀ T' v L, Stand p l e R s m args below meth c T' (locs ++ L) (cells + rm.cells) (slots + rm.slots) → Qc v T'.heap L → Goes p e below F T' (mkF m pc' ls (v.toList ++ st))) : Goes p e below F T (mkF m pc ls stk) := by
  subst hp hst
  obtain ⟨v, _, ⟨T', L', k', n'⟩, -, X', ⟨Lc, hQ, l1, y1, z1⟩, st'⟩ := Jvm.LawKit.callS X hx (y := y) hown (mvT hZ w1) (mvT hZ w2) (mvT hZ w3) (mvT hZ w4) hy (backOf (W := W) hC hZ w4 w3 hf hlo) (g := mkF m pc ls (argsL.reverse ++ st)) rfl hml (argsL := argsL) (rest := st) hlen rfl (by show 2 * 0 + _ ≤ _; omega) hd (fun _ _ => ⟨rfl, eT, hce, hsl⟩)
  dsimp only [Pt.U, Pt.locs, Pt.cells, Pt.slots] at X' l1 y1 z1 st' hQ
  subst l1 y1 z1
  exact Goes.fore st' (k T' v Lc X' hQ)
theorem gCallSJ (X : Stand p l e R s m args below meth c T locs cells slots) (hx : p.tables.exec = Jvm.exec) (hZ : Z.Warmed39 s.vm) {y : MethodName} {bytes : ByteArray} {maxL : Nat} {ret : Option FieldType} {rm : Room} {own : String} {i : Nat} {w : Value} (hown : s.vm.findClass own = some m.cls) (eT : T.heap = h) (hml : ls.size = c.maxLocals)
    (w1 : (Jvm.Cond.methodLink own i y).before a0 Z = true) (w2 : (Jvm.Cond.static y).before a0 Z = true) (w3 : (Jvm.Cond.initialized y.cls).before a0 Z = true) (w4 : (Jvm.Cond.code y bytes maxL ret).before a0 Z = true) (hy : y.cls ≠ "java/lang/invoke/MethodHandle" ∧ y.cls ≠ "java/lang/invoke/VarHandle")
    {argsL : List Value} {stk : List Value} (hC : Ctr l Z y bytes maxL ret [] rm argsL.toArray h (Just h w)) (hlen : ∀ sig, parseMethodDescriptor y.desc = some sig → argsL.length = sig.parameters.length) (hd : decode c.code pc = .ok (.invokestatic i, 3)) (hp : pc + 3 = pc') (hst : stk = argsL.reverse ++ st)
    (h0c : rm.cells = 0) (h0s : rm.slots = 0) (hf : rm.frames + 1 ≤ R.frames) {W : Nat} (hW : (st.map fun v => v.category).sum ≤ W) (hlo : W + (maxL + 11) + rm.locals ≤ R.locals) (hce : cells + rm.cells ≤ R.cells) (hsl : slots + rm.slots ≤ R.slots)
    (k : ∀ T', Stand p l e R s m args below meth c T' locs cells slots → T'.heap = h → Goes p e below F T' (mkF m pc' ls (w :: st))) : Goes p e below F T (mkF m pc ls stk) := by
  refine gCallS X hx hZ hown eT hml w1 w2 w3 w4 hy hC hlen hd hp hst hf hW hlo hce hsl ?_
  rintro T' v L X' ⟨rfl, e', rfl⟩
  rw [List.append_nil, h0c, h0s] at X'
  exact k T' X' e'
theorem gCallV (X : Stand p l e R s m args below meth c T locs cells slots) (hx : p.tables.exec = Jvm.exec) (hZ : Z.Warmed39 s.vm) {y : MethodName} {bytes : ByteArray} {maxL : Nat} {ret : Option FieldType} {rm : Room} {own : String} {i : Nat} {Qc : Option Value → Heap → List Loc → Prop} {C : String} {a : Addr} (hown : s.vm.findClass own = some m.cls) (eT : T.heap = h) (hml : ls.size = c.maxLocals) (E : Exa Z h a C)
    (w1 : (Jvm.Cond.methodLink own i y).before a0 Z = true) (w2 : (Jvm.Cond.declares y).before a0 Z = true) (w5 : (Jvm.Cond.selects C y y).before a0 Z = true) (w6 : (Jvm.Cond.instanceMethod y).before a0 Z = true) (w3 : (Jvm.Cond.initialized y.cls).before a0 Z = true) (w4 : (Jvm.Cond.code y bytes maxL ret).before a0 Z = true) (hy : y.cls ≠ "java/lang/invoke/MethodHandle" ∧ y.cls ≠ "java/lang/invoke/VarHandle")
    {argsL : List Value} {stk : List Value} (hC : Ctr l Z y bytes maxL ret [] rm (.ref a :: argsL).toArray h Qc) (hlen : ∀ sig, parseMethodDescriptor y.desc = some sig → argsL.length = sig.parameters.length) (hd : decode c.code pc = .ok (.invokevirtual i, 3)) (hp : pc + 3 = pc') (hst : stk = argsL.reverse ++ .ref a :: st)
    (hf : rm.frames + 1 ≤ R.frames) {W : Nat} (hW : (st.map fun v => v.category).sum ≤ W) (hlo : W + (maxL + 11) + rm.locals ≤ R.locals) (hce : cells + rm.cells ≤ R.cells) (hsl : slots + rm.slots ≤ R.slots)
    (k : ∀ T' v L, Stand p l e R s m args below meth c T' (locs ++ L) (cells + rm.cells) (slots + rm.slots) → Qc v T'.heap L → Goes p e below F T' (mkF m pc' ls (v.toList ++ st))) : Goes p e below F T (mkF m pc ls stk) := by
  subst hp hst
  obtain ⟨cq, kq, qa, qb, qc⟩ := isOf hZ eT E
  obtain ⟨v, _, ⟨T', L', k', n'⟩, -, X', ⟨Lc, hQ, l1, y1, z1⟩, st'⟩ := X.virtualBack hx (y := y) (z := y) hown (mvT hZ w1) (mvT hZ w2) (notFace_of_selects (args := #[]) (mvT hZ w5)) (mvT hZ w5) (mvT hZ w6) hy (backOf (W := W) hC hZ w4 w3 hf hlo) qa qc (g := mkF m pc ls (argsL.reverse ++ .ref a :: st)) rfl hml (Steps.refl _) (argsL := argsL) (rest := st) hlen rfl (by show 2 * 0 + _ ≤ _; omega) hd (fun _ _ => ⟨rfl, eT, hce, hsl⟩)
  dsimp only [Pt.U, Pt.locs, Pt.cells, Pt.slots] at X' l1 y1 z1 st' hQ
  subst l1 y1 z1
  exact Goes.tr st' (k T' v Lc X' hQ)
theorem gCallVJ (X : Stand p l e R s m args below meth c T locs cells slots) (hx : p.tables.exec = Jvm.exec) (hZ : Z.Warmed39 s.vm) {y : MethodName} {bytes : ByteArray} {maxL : Nat} {ret : Option FieldType} {rm : Room} {own : String} {i : Nat} {w : Value} {C : String} {a : Addr} (hown : s.vm.findClass own = some m.cls) (eT : T.heap = h) (hml : ls.size = c.maxLocals) (E : Exa Z h a C)
    (w1 : (Jvm.Cond.methodLink own i y).before a0 Z = true) (w2 : (Jvm.Cond.declares y).before a0 Z = true) (w5 : (Jvm.Cond.selects C y y).before a0 Z = true) (w6 : (Jvm.Cond.instanceMethod y).before a0 Z = true) (w3 : (Jvm.Cond.initialized y.cls).before a0 Z = true) (w4 : (Jvm.Cond.code y bytes maxL ret).before a0 Z = true) (hy : y.cls ≠ "java/lang/invoke/MethodHandle" ∧ y.cls ≠ "java/lang/invoke/VarHandle")
    {argsL : List Value} {stk : List Value} (hC : Ctr l Z y bytes maxL ret [] rm (.ref a :: argsL).toArray h (Just h w)) (hlen : ∀ sig, parseMethodDescriptor y.desc = some sig → argsL.length = sig.parameters.length) (hd : decode c.code pc = .ok (.invokevirtual i, 3)) (hp : pc + 3 = pc') (hst : stk = argsL.reverse ++ .ref a :: st)
    (h0c : rm.cells = 0) (h0s : rm.slots = 0) (hf : rm.frames + 1 ≤ R.frames) {W : Nat} (hW : (st.map fun v => v.category).sum ≤ W) (hlo : W + (maxL + 11) + rm.locals ≤ R.locals) (hce : cells + rm.cells ≤ R.cells) (hsl : slots + rm.slots ≤ R.slots)
    (k : ∀ T', Stand p l e R s m args below meth c T' locs cells slots → T'.heap = h → Goes p e below F T' (mkF m pc' ls (w :: st))) : Goes p e below F T (mkF m pc ls stk) := by
  refine gCallV X hx hZ hown eT hml E w1 w2 w5 w6 w3 w4 hy hC hlen hd hp hst hf hW hlo hce hsl ?_
  rintro T' v L X' ⟨rfl, e', rfl⟩
  rw [List.append_nil, h0c, h0s] at X'
  exact k T' X' e'
theorem gLIfEq (X : Stand p l e R s m args below meth c T locs cells slots) (hx : p.tables.exec = Jvm.exec) {o : Int} {x y : Int64} {pn : Nat} (hd : decode c.code pc = .ok (.ifCond .eq o, 3)) (ho : 0 ≤ (pc : Int) + o) (hp : ((pc : Int) + o).toNat = pc') (hn : pc + 3 = pn) (kY : x = y → Goes p e below F T (mkF m pc' ls st)) (kN : ¬ x = y → Goes p e below F T (mkF m pn ls st)) : Goes p e below F T (mkF m pc ls (.int (lcmpW x y) :: st)) := by
  have z := lw_eq x y
  refine gIf X hx hd ho hp hn (fun q => kY ?_) (fun q => kN ?_) <;> simp only [ifCond.holds, decide_eq_true_eq, decide_eq_false_iff_not, beq_iff_eq, bne_iff_ne, Int32.not_lt, Int32.not_le, Int32.lt_iff_toInt_lt, Int32.le_iff_toInt_le, Int64.lt_iff_toInt_lt, ← Int32.toInt_inj, beq_eq_false_iff_ne, bne_eq_false_iff_eq, ne_eq] at q z ⊢ <;> first | exact z.mp q | exact fun k => q (z.mpr k) | omega
theorem gLIfNe (X : Stand p l e R s m args below meth c T locs cells slots) (hx : p.tables.exec = Jvm.exec) {o : Int} {x y : Int64} {pn : Nat} (hd : decode c.code pc = .ok (.ifCond .ne o, 3)) (ho : 0 ≤ (pc : Int) + o) (hp : ((pc : Int) + o).toNat = pc') (hn : pc + 3 = pn) (kY : ¬ x = y → Goes p e below F T (mkF m pc' ls st)) (kN : x = y → Goes p e below F T (mkF m pn ls st)) : Goes p e below F T (mkF m pc ls (.int (lcmpW x y) :: st)) := by
  have z := lw_eq x y
  refine gIf X hx hd ho hp hn (fun q => kY ?_) (fun q => kN ?_) <;> simp only [ifCond.holds, decide_eq_true_eq, decide_eq_false_iff_not, beq_iff_eq, bne_iff_ne, Int32.not_lt, Int32.not_le, Int32.lt_iff_toInt_lt, Int32.le_iff_toInt_le, Int64.lt_iff_toInt_lt, ← Int32.toInt_inj, beq_eq_false_iff_ne, bne_eq_false_iff_eq, ne_eq] at q z ⊢ <;> first | exact z.mp q | exact fun k => q (z.mpr k) | omega
theorem gLIfLt (X : Stand p l e R s m args below meth c T locs cells slots) (hx : p.tables.exec = Jvm.exec) {o : Int} {x y : Int64} {pn : Nat} (hd : decode c.code pc = .ok (.ifCond .lt o, 3)) (ho : 0 ≤ (pc : Int) + o) (hp : ((pc : Int) + o).toNat = pc') (hn : pc + 3 = pn) (kY : x.toInt < y.toInt → Goes p e below F T (mkF m pc' ls st)) (kN : y.toInt ≤ x.toInt → Goes p e below F T (mkF m pn ls st)) : Goes p e below F T (mkF m pc ls (.int (lcmpW x y) :: st)) := by
  have z := lw_lt x y
  refine gIf X hx hd ho hp hn (fun q => kY ?_) (fun q => kN ?_) <;> simp only [ifCond.holds, decide_eq_true_eq, decide_eq_false_iff_not, beq_iff_eq, bne_iff_ne, Int32.not_lt, Int32.not_le, Int32.lt_iff_toInt_lt, Int32.le_iff_toInt_le, Int64.lt_iff_toInt_lt, ← Int32.toInt_inj, beq_eq_false_iff_ne, bne_eq_false_iff_eq, ne_eq] at q z ⊢ <;> first | exact z.mp q | exact fun k => q (z.mpr k) | omega
theorem gLIfGe (X : Stand p l e R s m args below meth c T locs cells slots) (hx : p.tables.exec = Jvm.exec) {o : Int} {x y : Int64} {pn : Nat} (hd : decode c.code pc = .ok (.ifCond .ge o, 3)) (ho : 0 ≤ (pc : Int) + o) (hp : ((pc : Int) + o).toNat = pc') (hn : pc + 3 = pn) (kY : y.toInt ≤ x.toInt → Goes p e below F T (mkF m pc' ls st)) (kN : x.toInt < y.toInt → Goes p e below F T (mkF m pn ls st)) : Goes p e below F T (mkF m pc ls (.int (lcmpW x y) :: st)) := by
  have z := lw_lt x y
  refine gIf X hx hd ho hp hn (fun q => kY ?_) (fun q => kN ?_) <;> simp only [ifCond.holds, decide_eq_true_eq, decide_eq_false_iff_not, beq_iff_eq, bne_iff_ne, Int32.not_lt, Int32.not_le, Int32.lt_iff_toInt_lt, Int32.le_iff_toInt_le, Int64.lt_iff_toInt_lt, ← Int32.toInt_inj, beq_eq_false_iff_ne, bne_eq_false_iff_eq, ne_eq] at q z ⊢ <;> first | exact z.mp q | exact fun k => q (z.mpr k) | omega
theorem gLIfGt (X : Stand p l e R s m args below meth c T locs cells slots) (hx : p.tables.exec = Jvm.exec) {o : Int} {x y : Int64} {pn : Nat} (hd : decode c.code pc = .ok (.ifCond .gt o, 3)) (ho : 0 ≤ (pc : Int) + o) (hp : ((pc : Int) + o).toNat = pc') (hn : pc + 3 = pn) (kY : y.toInt < x.toInt → Goes p e below F T (mkF m pc' ls st)) (kN : x.toInt ≤ y.toInt → Goes p e below F T (mkF m pn ls st)) : Goes p e below F T (mkF m pc ls (.int (lcmpW x y) :: st)) := by
  have z := lw_gt x y
  refine gIf X hx hd ho hp hn (fun q => kY ?_) (fun q => kN ?_) <;> simp only [ifCond.holds, decide_eq_true_eq, decide_eq_false_iff_not, beq_iff_eq, bne_iff_ne, Int32.not_lt, Int32.not_le, Int32.lt_iff_toInt_lt, Int32.le_iff_toInt_le, Int64.lt_iff_toInt_lt, ← Int32.toInt_inj, beq_eq_false_iff_ne, bne_eq_false_iff_eq, ne_eq] at q z ⊢ <;> first | exact z.mp q | exact fun k => q (z.mpr k) | omega
theorem gLIfLe (X : Stand p l e R s m args below meth c T locs cells slots) (hx : p.tables.exec = Jvm.exec) {o : Int} {x y : Int64} {pn : Nat} (hd : decode c.code pc = .ok (.ifCond .le o, 3)) (ho : 0 ≤ (pc : Int) + o) (hp : ((pc : Int) + o).toNat = pc') (hn : pc + 3 = pn) (kY : x.toInt ≤ y.toInt → Goes p e below F T (mkF m pc' ls st)) (kN : y.toInt < x.toInt → Goes p e below F T (mkF m pn ls st)) : Goes p e below F T (mkF m pc ls (.int (lcmpW x y) :: st)) := by
  have z := lw_gt x y
  refine gIf X hx hd ho hp hn (fun q => kY ?_) (fun q => kN ?_) <;> simp only [ifCond.holds, decide_eq_true_eq, decide_eq_false_iff_not, beq_iff_eq, bne_iff_ne, Int32.not_lt, Int32.not_le, Int32.lt_iff_toInt_lt, Int32.le_iff_toInt_le, Int64.lt_iff_toInt_lt, ← Int32.toInt_inj, beq_eq_false_iff_ne, bne_eq_false_iff_eq, ne_eq] at q z ⊢ <;> first | exact z.mp q | exact fun k => q (z.mpr k) | omega
theorem gNew (X : Stand p l e R s m args below meth c T locs cells slots) (hx : p.tables.exec = Jvm.exec) (hZ : Z.Warmed39 s.vm) {own C : String} {i n : Nat} (hown : s.vm.findClass own = some m.cls) (w : (Jvm.Cond.classLink own i C).before a0 Z = true) (wi : (Jvm.Cond.instantiable C n).before a0 Z = true) (wz : (Jvm.Cond.initialized C).before a0 Z = true) (eT : T.heap = h) (hd : decode c.code pc = .ok (.new i, 3)) (hp : pc + 3 = pc') (hc : cells + 1 ≤ R.cells) (hl : slots + n ≤ R.slots)
    (k : ∀ T' h' b, Stand p l e R s m args below meth c T' locs (cells + 1) (slots + n) → T'.heap = h' → b = h.size → Ext h h' → Exa Z h' b C → (∀ {O nm d : String} {ty : FieldType}, Laid Z a0 C O nm d → parseFieldDescriptor d = some ty → Fld Z h' b O nm d (defaultValue ty)) → Goes p e below F T' (mkF m pc' ls (.ref b :: st))) : Goes p e below F T (mkF m pc ls st) := by
  subst hp
  obtain ⟨T', h', X', e', E, A, D, -, st'⟩ := newO X hx hZ hown w wi wz eT (g := mkF m pc ls st) rfl hd hc hl
  exact Goes.fore st' (k T' h' _ X' e' rfl E A D)
theorem gPutF (X : Stand p l e R s m args below meth c T locs cells slots) (hx : p.tables.exec = Jvm.exec) (hZ : Z.Warmed39 s.vm) {own R0 O n d C : String} {i kk : Nat} {ty : FieldType} (hown : s.vm.findClass own = some m.cls) (w : (Jvm.Cond.fieldLink own i R0 n d).before a0 Z = true) (via : Via Z R0 O n d) (eT : T.heap = h) {a : Addr} {v old : Value} (Fa : Fld Z h a O n d old) (E : Exa Z h a C) (L : (Jvm.Cond.lays C O n d).before a0 Z = true ∨ ((Jvm.Cond.laysFinal C O n d).before a0 Z = true ∧ own = O ∧ meth.name = "<init>")) (wi : (Jvm.Cond.instantiable C kk).before a0 Z = true)
    (hty : parseFieldDescriptor d = some ty) (hn : narrow ty v = v) (hf : fits ty v = true) (hd : decode c.code pc = .ok (.putfield i, 3)) (hp : pc + 3 = pc')
    (k : ∀ T' h', Stand p l e R s m args below meth c T' (locs ++ [⟨a, RoadKit.slotOf Z O n d⟩]) cells slots → T'.heap = h' → Wr h h' a (RoadKit.slotOf Z O n d) v → Goes p e below F T' (mkF m pc' ls st)) : Goes p e below F T (mkF m pc ls (v :: .ref a :: st)) := by
  subst hp
  obtain ⟨T', h', X', e', W, st'⟩ := putF X hx hZ (host := "") hown (Or.inl w) via eT Fa E L wi hty hn hf (g := mkF m pc ls (v :: .ref a :: st)) rfl rfl hd
  exact Goes.fore st' (k T' h' X' e' W)
theorem gInitO (X : Stand p l e R s m args below meth c T locs cells slots) (hx : p.tables.exec = Jvm.exec) (hZ : Z.Warmed39 s.vm) {own : String} {i : Nat} (hown : s.vm.findClass own = some m.cls) (w1 : (Jvm.Cond.methodLink own i Lib.objectInit).before a0 Z = true) (w2 : (Jvm.Cond.instanceMethod Lib.objectInit).before a0 Z = true) (w3 : (Jvm.Cond.code Lib.objectInit ⟨#[0xb1]⟩ 1 none).before a0 Z = true) (eT : T.heap = h) (hml : ls.size = c.maxLocals) {a : Addr} (hd : decode c.code pc = .ok (.invokespecial i, 3)) (hp : pc + 3 = pc') (hf : 1 ≤ R.frames) {W : Nat} (hW : (st.map fun v => v.category).sum ≤ W) (hl : W + 12 ≤ R.locals)
    (k : ∀ T', Stand p l e R s m args below meth c T' locs cells slots → T'.heap = h → Goes p e below F T' (mkF m pc' ls st)) : Goes p e below F T (mkF m pc ls (.ref a :: st)) := by
  subst hp
  obtain ⟨T', X', e', st'⟩ := initO X hx hZ hown w1 w2 w3 eT (g := mkF m pc ls (.ref a :: st)) rfl hml rfl hd hf (W := W) (by show 2 * 0 + _ ≤ _; omega) hl
  exact Goes.fore st' (k T' X' e')
theorem gCallI (X : Stand p l e R s m args below meth c T locs cells slots) (hx : p.tables.exec = Jvm.exec) (hZ : Z.Warmed39 s.vm) {y : MethodName} {bytes : ByteArray} {maxL : Nat} {rm : Room} {own : String} {i : Nat} {Qc : Option Value → Heap → List Loc → Prop} {a : Addr} (hy1 : y.name = "<init>") (hown : s.vm.findClass own = some m.cls) (eT : T.heap = h) (hml : ls.size = c.maxLocals)
    (w1 : (Jvm.Cond.methodLink own i y).before a0 Z = true) (w2 : (Jvm.Cond.instanceMethod y).before a0 Z = true) (w3 : (Jvm.Cond.initialized y.cls).before a0 Z = true) (w4 : (Jvm.Cond.code y bytes maxL none).before a0 Z = true) (hy : y.cls ≠ "java/lang/invoke/MethodHandle" ∧ y.cls ≠ "java/lang/invoke/VarHandle")
    {argsL : List Value} {stk : List Value} (hC : Ctr l Z y bytes maxL none [] rm (.ref a :: argsL).toArray h Qc) (hlen : ∀ sig, parseMethodDescriptor y.desc = some sig → argsL.length = sig.parameters.length) (hd : decode c.code pc = .ok (.invokespecial i, 3)) (hp : pc + 3 = pc') (hst : stk = argsL.reverse ++ .ref a :: st)
    (hf : rm.frames + 1 ≤ R.frames) {W : Nat} (hW : (st.map fun v => v.category).sum ≤ W) (hlo : W + (maxL + 11) + rm.locals ≤ R.locals) (hce : cells + rm.cells ≤ R.cells) (hsl : slots + rm.slots ≤ R.slots)
    (k : ∀ T' v L, Stand p l e R s m args below meth c T' (locs ++ L) (cells + rm.cells) (slots + rm.slots) → Qc v T'.heap L → Goes p e below F T' (mkF m pc' ls (v.toList ++ st))) : Goes p e below F T (mkF m pc ls stk) := by
  subst hp hst
  obtain ⟨v, _, ⟨T', L', k', n'⟩, -, X', ⟨Lc, hQ, l1, y1, z1⟩, st'⟩ := X.specialBack hx (y := y) hy1 hown (mvT hZ w1) (mvT hZ w2) (mvT hZ w4) hy (backOf (W := W) hC hZ w4 w3 hf hlo) (g := mkF m pc ls (argsL.reverse ++ .ref a :: st)) rfl hml (Steps.refl _) (a := a) (argsL := argsL) (rest := st) hlen rfl (by show 2 * 0 + _ ≤ _; omega) hd (fun _ _ => ⟨rfl, eT, hce, hsl⟩)
  dsimp only [Pt.U, Pt.locs, Pt.cells, Pt.slots] at X' l1 y1 z1 st' hQ
  subst l1 y1 z1
  exact Goes.tr st' (k T' v Lc X' hQ)
end OwnLayer
/-- a boolean as the machine holds it -/
def b2i (b : Bool) : Int32 := if b then 1 else 0
theorem b2_t {P : Prop} [Decidable P] (h : P) : b2i (decide P) = 1 := by simp [b2i, h]
theorem b2_f {P : Prop} [Decidable P] (h : ¬ P) : b2i (decide P) = 0 := by simp [b2i, h]
theorem b2_0 {b : Bool} : b2i b = 0 ↔ b = false := by cases b <;> simp [b2i]
theorem b2_n0 {b : Bool} : ¬ b2i b = 0 ↔ b = true := by cases b <;> simp [b2i]
theorem b2_inj {a b : Bool} : b2i a = b2i b ↔ a = b := by cases a <;> cases b <;> simp [b2i]
theorem b2_nar {b : Bool} : nar .boolean (b2i b) = b2i b := by cases b <;> rfl
theorem just_t {h0 h : Heap} {P : Prop} [Decidable P] (q : P) (e : h = h0) : Just h0 (.int (b2i (decide P))) (some (.int 1)) h [] := ⟨by rw [b2_t q], e, rfl⟩
theorem just_f {h0 h : Heap} {P : Prop} [Decidable P] (q : ¬ P) (e : h = h0) : Just h0 (.int (b2i (decide P))) (some (.int 0)) h [] := ⟨by rw [b2_f q], e, rfl⟩
/-- the law returns 1; what it wrote is new -/
def Law1 (h0 : Heap) (v : Option Value) (h : Heap) (L : List Loc) : Prop := v = some (.int 1) ∧ Fr h0.size L
section OwnArrays
variable {p : Program} {l : Launch} {e : Env} {R : Room} {s : State} {m : MethodId} {args : Array Value} {below : List Frame} {meth : Method} {c : Code} {T : State} {locs : List Loc} {cells slots : Nat}
variable {F : State → Outcome → Prop} {pc pc' : Nat} {ls : Array Slot} {st : List Value} {Z : State} {a0 : Array Value} {h : Heap} {a : Addr} {ck : ClassId} {n j : Int32} {vs : List Value} {dv : Value}
theorem gIaload (X : Stand p l e R s m args below meth c T locs cells slots) (hx : p.tables.exec = Jvm.exec) (hZ : Z.Warmed39 s.vm) (eT : T.heap = h) {v : Value} (A : Arv Z h a ck .int n vs dv) (h0 : ¬ j < 0) (h1 : j < n) (hv : vs.getD j.toNatClampNeg dv = v) (hd : decode c.code pc = .ok (.iaload, 1)) (hp : pc + 1 = pc') (k : Goes p e below F T (mkF m pc' ls (v :: st))) : Goes p e below F T (mkF m pc ls (.int j :: .ref a :: st)) := by
  subst hp
  obtain ⟨cl, Ar, q, S, N, H, _⟩ := A
  have hin := inb_of S ⟨h0, h1⟩
  exact Goes.fore (fun t q => X.iaload hx (j := j) (v := v) (by rw [eT]; exact Ar.1) (State.isArrayOf_alike hZ.alike Ar.2.1) Ar.2.2 hin (Has.at H hin hv) (g := mkF m pc ls (.int j :: .ref a :: st)) rfl rfl hd t q) k
theorem gCaload (X : Stand p l e R s m args below meth c T locs cells slots) (hx : p.tables.exec = Jvm.exec) (hZ : Z.Warmed39 s.vm) (eT : T.heap = h) {v : Value} (A : Arv Z h a ck .char n vs dv) (h0 : ¬ j < 0) (h1 : j < n) (hv : vs.getD j.toNatClampNeg dv = v) (hd : decode c.code pc = .ok (.caload, 1)) (hp : pc + 1 = pc') (k : Goes p e below F T (mkF m pc' ls (v :: st))) : Goes p e below F T (mkF m pc ls (.int j :: .ref a :: st)) := by
  subst hp
  obtain ⟨cl, Ar, q, S, N, H, _⟩ := A
  have hin := inb_of S ⟨h0, h1⟩
  exact Goes.fore (fun t q => X.caload hx (j := j) (v := v) (by rw [eT]; exact Ar.1) (State.isArrayOf_alike hZ.alike Ar.2.1) Ar.2.2 hin (Has.at H hin hv) (g := mkF m pc ls (.int j :: .ref a :: st)) rfl rfl hd t q) k
theorem gLaload (X : Stand p l e R s m args below meth c T locs cells slots) (hx : p.tables.exec = Jvm.exec) (hZ : Z.Warmed39 s.vm) (eT : T.heap = h) {v : Value} (A : Arv Z h a ck .long n vs dv) (h0 : ¬ j < 0) (h1 : j < n) (hv : vs.getD j.toNatClampNeg dv = v) (hd : decode c.code pc = .ok (.laload, 1)) (hp : pc + 1 = pc') (k : Goes p e below F T (mkF m pc' ls (v :: st))) : Goes p e below F T (mkF m pc ls (.int j :: .ref a :: st)) := by
  subst hp
  obtain ⟨cl, Ar, q, S, N, H, _⟩ := A
  have hin := inb_of S ⟨h0, h1⟩
  exact Goes.fore (fun t q => X.laload hx (j := j) (v := v) (by rw [eT]; exact Ar.1) (State.isArrayOf_alike hZ.alike Ar.2.1) Ar.2.2 hin (Has.at H hin hv) (g := mkF m pc ls (.int j :: .ref a :: st)) rfl rfl hd t q) k
theorem gBaload (X : Stand p l e R s m args below meth c T locs cells slots) (hx : p.tables.exec = Jvm.exec) (hZ : Z.Warmed39 s.vm) (eT : T.heap = h) {v : Value} (A : Arv Z h a ck .byte n vs dv) (h0 : ¬ j < 0) (h1 : j < n) (hv : vs.getD j.toNatClampNeg dv = v) (hd : decode c.code pc = .ok (.baload, 1)) (hp : pc + 1 = pc') (k : Goes p e below F T (mkF m pc' ls (v :: st))) : Goes p e below F T (mkF m pc ls (.int j :: .ref a :: st)) := by
  subst hp
  obtain ⟨cl, Ar, q, S, N, H, _⟩ := A
  have hin := inb_of S ⟨h0, h1⟩
  exact Goes.fore (fun t q => X.baloadBytes hx (j := j) (v := v) (by rw [eT]; exact Ar.1) (State.isArrayOf_alike hZ.alike Ar.2.1) Ar.2.2 hin (Has.at H hin hv) (g := mkF m pc ls (.int j :: .ref a :: st)) rfl rfl hd t q) k
theorem gAaload (X : Stand p l e R s m args below meth c T locs cells slots) (hx : p.tables.exec = Jvm.exec) (hZ : Z.Warmed39 s.vm) (eT : T.heap = h) {v : Value} {ty : FieldType} (hty : ty.isReference = true) (A : Arv Z h a ck ty n vs dv) (h0 : ¬ j < 0) (h1 : j < n) (hv : vs.getD j.toNatClampNeg dv = v) (hd : decode c.code pc = .ok (.aaload, 1)) (hp : pc + 1 = pc') (k : Goes p e below F T (mkF m pc' ls (v :: st))) : Goes p e below F T (mkF m pc ls (.int j :: .ref a :: st)) := by
  subst hp
  obtain ⟨cl, Ar, q, S, N, H, _⟩ := A
  have hin := inb_of S ⟨h0, h1⟩
  exact Goes.fore (fun t q => X.aaload hx (j := j) (v := v) (by rw [eT]; exact Ar.1) (State.isArrayOf_alike hZ.alike Ar.2.1) hty Ar.2.2 hin (Has.at H hin hv) (g := mkF m pc ls (.int j :: .ref a :: st)) rfl rfl hd t q) k
theorem gArrLen (X : Stand p l e R s m args below meth c T locs cells slots) (hx : p.tables.exec = Jvm.exec) (hZ : Z.Warmed39 s.vm) (eT : T.heap = h) {ty : FieldType} (A : Arv Z h a ck ty n vs dv) (hd : decode c.code pc = .ok (.arraylength, 1)) (hp : pc + 1 = pc') (k : Goes p e below F T (mkF m pc' ls (.int n :: st))) : Goes p e below F T (mkF m pc ls (.ref a :: st)) := by
  subst hp
  obtain ⟨cl, Ar, q, S, N, H, _⟩ := A
  refine Goes.fore (fun t q => X.arraylength hx (by rw [eT]; exact Ar.1) (State.isArrayOf_alike hZ.alike Ar.2.1) (g := mkF m pc ls (.ref a :: st)) rfl rfl hd t q) ?_
  rw [len_of S N]; exact k
theorem gIastore (X : Stand p l e R s m args below meth c T locs cells slots) (hx : p.tables.exec = Jvm.exec) (hZ : Z.Warmed39 s.vm) (eT : T.heap = h) {x : Int32} (A : Arv Z h a ck .int n vs dv) (h0 : ¬ j < 0) (h1 : j < n) (i : Nat) (hj : j.toNatClampNeg = i) (hi : i < vs.length) (hd : decode c.code pc = .ok (.iastore, 1)) (hp : pc + 1 = pc')
    (k : ∀ T' h', Stand p l e R s m args below meth c T' (locs ++ [⟨a, j.toNatClampNeg⟩]) cells slots → T'.heap = h' → Wr h h' a j.toNatClampNeg (.int x) → Arv Z h' a ck .int n (vs.set i (.int x)) dv → Goes p e below F T' (mkF m pc' ls st)) : Goes p e below F T (mkF m pc ls (.int x :: .int j :: .ref a :: st)) := by
  subst hp
  obtain ⟨cl, Ar, q, S, N, H, Gt⟩ := A
  obtain ⟨T', h', X', e', W, st'⟩ := stI X hx hZ eT Ar (j := j) (inb_of S ⟨h0, h1⟩) (g := mkF m pc ls (.int x :: .int j :: .ref a :: st)) rfl rfl hd
  exact Goes.fore st' (k T' h' X' e' W (Arv.set Ar q S N H Gt rfl W i hj hi))
theorem gCastore (X : Stand p l e R s m args below meth c T locs cells slots) (hx : p.tables.exec = Jvm.exec) (hZ : Z.Warmed39 s.vm) (eT : T.heap = h) {x : Int32} (A : Arv Z h a ck .char n vs dv) (h0 : ¬ j < 0) (h1 : j < n) (i : Nat) (hj : j.toNatClampNeg = i) (hi : i < vs.length) (hd : decode c.code pc = .ok (.castore, 1)) (hp : pc + 1 = pc')
    (k : ∀ T' h', Stand p l e R s m args below meth c T' (locs ++ [⟨a, j.toNatClampNeg⟩]) cells slots → T'.heap = h' → Wr h h' a j.toNatClampNeg (.int (nar .char x)) → Arv Z h' a ck .char n (vs.set i (.int (nar .char x))) dv → Goes p e below F T' (mkF m pc' ls st)) : Goes p e below F T (mkF m pc ls (.int x :: .int j :: .ref a :: st)) := by
  subst hp
  obtain ⟨cl, Ar, q, S, N, H, Gt⟩ := A
  obtain ⟨T', h', X', e', W, st'⟩ := stC X hx hZ eT Ar (j := j) (inb_of S ⟨h0, h1⟩) (g := mkF m pc ls (.int x :: .int j :: .ref a :: st)) rfl rfl hd
  exact Goes.fore st' (k T' h' X' e' W (Arv.set Ar q S N H Gt (fits_nar_char _) W i hj hi))
theorem gBastore (X : Stand p l e R s m args below meth c T locs cells slots) (hx : p.tables.exec = Jvm.exec) (hZ : Z.Warmed39 s.vm) (eT : T.heap = h) {x : Int32} (A : Arv Z h a ck .byte n vs dv) (h0 : ¬ j < 0) (h1 : j < n) (i : Nat) (hj : j.toNatClampNeg = i) (hi : i < vs.length) (hd : decode c.code pc = .ok (.bastore, 1)) (hp : pc + 1 = pc')
    (k : ∀ T' h', Stand p l e R s m args below meth c T' (locs ++ [⟨a, j.toNatClampNeg⟩]) cells slots → T'.heap = h' → Wr h h' a j.toNatClampNeg (.int (nar .byte x)) → Arv Z h' a ck .byte n (vs.set i (.int (nar .byte x))) dv → Goes p e below F T' (mkF m pc' ls st)) : Goes p e below F T (mkF m pc ls (.int x :: .int j :: .ref a :: st)) := by
  subst hp
  obtain ⟨cl, Ar, q, S, N, H, Gt⟩ := A
  obtain ⟨T', h', X', e', W, st'⟩ := stB X hx hZ eT Ar (j := j) (inb_of S ⟨h0, h1⟩) (g := mkF m pc ls (.int x :: .int j :: .ref a :: st)) rfl rfl hd
  exact Goes.fore st' (k T' h' X' e' W (Arv.set Ar q S N H Gt (fits_nar_byte _) W i hj hi))
theorem gLastore (X : Stand p l e R s m args below meth c T locs cells slots) (hx : p.tables.exec = Jvm.exec) (hZ : Z.Warmed39 s.vm) (eT : T.heap = h) {x : Int64} (A : Arv Z h a ck .long n vs dv) (h0 : ¬ j < 0) (h1 : j < n) (i : Nat) (hj : j.toNatClampNeg = i) (hi : i < vs.length) (hd : decode c.code pc = .ok (.lastore, 1)) (hp : pc + 1 = pc')
    (k : ∀ T' h', Stand p l e R s m args below meth c T' (locs ++ [⟨a, j.toNatClampNeg⟩]) cells slots → T'.heap = h' → Wr h h' a j.toNatClampNeg (.long x) → Arv Z h' a ck .long n (vs.set i (.long x)) dv → Goes p e below F T' (mkF m pc' ls st)) : Goes p e below F T (mkF m pc ls (.long x :: .int j :: .ref a :: st)) := by
  subst hp
  obtain ⟨cl, Ar, q, S, N, H, Gt⟩ := A
  obtain ⟨T', h', X', e', W, st'⟩ := stJ X hx hZ eT Ar (j := j) (inb_of S ⟨h0, h1⟩) (g := mkF m pc ls (.long x :: .int j :: .ref a :: st)) rfl rfl hd
  exact Goes.fore st' (k T' h' X' e' W (Arv.set Ar q S N H Gt rfl W i hj hi))
theorem gNewP (X : Stand p l e R s m args below meth c T locs cells slots) (hx : p.tables.exec = Jvm.exec) (hZ : Z.Warmed39 s.vm) {aty : ArrayType} (w : (Jvm.Cond.arrayClass (newarray.typeOf aty)).before a0 Z = true) (eT : T.heap = h) (hd : decode c.code pc = .ok (.newarray aty, 2)) (hn : ¬ n < 0) {cap : Nat} (hcap : n.toNatClampNeg ≤ cap) (hb : cap * 8 ≤ 536870912) (hc : cells + 1 ≤ R.cells) (hl : slots + cap ≤ R.slots) (N : Nat) (hp : pc + 2 = pc')
    (k : ∀ T' h' b cA, Stand p l e R s m args below meth c T' locs (cells + 1) (slots + cap) → T'.heap = h' → b = h.size → Ext h h' → Arv Z h' b cA (newarray.typeOf aty) n (List.replicate N (defaultValue (newarray.typeOf aty))) (defaultValue (newarray.typeOf aty)) → Goes p e below F T' (mkF m pc' ls (.ref b :: st))) : Goes p e below F T (mkF m pc ls (.int n :: st)) := by
  subst hp
  obtain ⟨T', h', cA, X', e', E, A, st'⟩ := newP X hx hZ w eT (g := mkF m pc ls (.int n :: st)) rfl hd rfl hn hcap hb hc hl
  exact Goes.fore st' (k T' h' _ cA X' e' rfl E ((Arv.new A hn).pad (pad_rep [] _ N)))
theorem gCast (X : Stand p l e R s m args below meth c T locs cells slots) (hx : p.tables.exec = Jvm.exec) (hZ : Z.Warmed39 s.vm) {own K : String} {i : Nat} (hown : s.vm.findClass own = some m.cls) (w : (Jvm.Cond.classLink own i K).before a0 Z = true) (eT : T.heap = h) (I : Ins Z h a K true) (hd : decode c.code pc = .ok (.checkcast i, 3)) (hp : pc + 3 = pc')
    (k : ∀ T', Stand p l e R s m args below meth c T' locs cells slots → T'.heap = h → Goes p e below F T' (mkF m pc' ls (.ref a :: st))) : Goes p e below F T (mkF m pc ls (.ref a :: st)) := by
  subst hp
  obtain ⟨T', X', e', st'⟩ := castY X hx hZ hown w eT I (g := mkF m pc ls (.ref a :: st)) rfl rfl hd
  exact Goes.fore st' (k T' X' e')
theorem gClone (X : Stand p l e R s m args below meth c T locs cells slots) (hx : p.tables.exec = Jvm.exec) (hZ : Z.Warmed39 s.vm) {own ad : String} {i : Nat} (hown : s.vm.findClass own = some m.cls) (w1 : (Jvm.Cond.methodLink own i ⟨ad, "clone", "()Ljava/lang/Object;"⟩).before a0 Z = true) (w2 : (Jvm.Cond.sameMethod ad "java/lang/Object" "clone" "()Ljava/lang/Object;").before a0 Z = true) (w3 : (Jvm.Cond.native ⟨"java/lang/Object", "clone", "()Ljava/lang/Object;"⟩).before a0 Z = true)
    (w4 : (Jvm.Cond.instanceMethod ⟨"java/lang/Object", "clone", "()Ljava/lang/Object;"⟩).before a0 Z = true) (w5 : (Jvm.Cond.selects ad ⟨ad, "clone", "()Ljava/lang/Object;"⟩ ⟨"java/lang/Object", "clone", "()Ljava/lang/Object;"⟩).before a0 Z = true) (w6 : (Jvm.Cond.castable ad "java/lang/Cloneable").before a0 Z = true) {ty : FieldType}
    (eT : T.heap = h) (A : Arv Z h a ck ty n vs dv) (E : Exa Z h a ad) (hml : ls.size = c.maxLocals) (hd : decode c.code pc = .ok (.invokevirtual i, 3)) (hf : 1 ≤ R.frames) {W cap : Nat} (hW : (st.map fun v => v.category).sum ≤ W) (hlo : W + 14 ≤ R.locals) (hcap : n.toNatClampNeg ≤ cap) (hc : cells + 1 ≤ R.cells) (hsl : slots + cap ≤ R.slots) (hp : pc + 3 = pc')
    (k : ∀ T' h' b, Stand p l e R s m args below meth c T' locs (cells + 1) (slots + cap) → T'.heap = h' → b = h.size → Ext h h' → Arv Z h' b ck ty n vs dv → Exa Z h' b ad → Goes p e below F T' (mkF m pc' ls (.ref b :: st))) : Goes p e below F T (mkF m pc ls (.ref a :: st)) := by
  subst hp
  obtain ⟨T', h', X', e', E', A', Ex, st'⟩ := cloneH X hx hZ hown w1 w2 w3 w4 w5 w6 eT A.arh E (g := mkF m pc ls (.ref a :: st)) rfl hml rfl hd hf (W := W) (cap := cap) (by show 2 * 0 + _ ≤ _; omega) hlo hcap hc hsl
  exact Goes.fore st' (k T' h' _ X' e' rfl E' A' Ex)
end OwnArrays
section OwnWide
variable {p : Program} {l : Launch} {e : Env} {R : Room} {s : State} {m : MethodId} {args : Array Value} {below : List Frame} {meth : Method} {c : Code} {T : State} {locs : List Loc} {cells slots : Nat}
variable {F : State → Outcome → Prop} {kc ks : Nat} {Q : Option Value → Heap → List Loc → Prop} {pc pc' : Nat} {ls : Array Slot} {st : List Value} {Z : State} {a0 : Array Value} {h : Heap} {EL : List (String × Nat)} {vm0 : Vm} {k0 : Nat}
/-- it returns, Q holds, the frame is the wide one, and what is booked of the constants EL says its text still -/
def FinH (Z : State) (EL : List (String × Nat)) (s : State) (kc ks : Nat) (Q : Option Value → Heap → List Loc → Prop) (s₂ : State) (o : Outcome) : Prop := ∃ v L, o = .returned v ∧ Q v s₂.heap L ∧ CHr Z EL s.vm s.heap s₂.vm s₂.heap ∧ ReturnedEndW s o s₂ L kc ks
def CtrH (l : Launch) (Z : State) (EL : List (String × Nat)) (SL : List Addr) (y : MethodName) (bytes : ByteArray) (maxL : Nat) (ret : Option FieldType) (ws : List Jvm.Cond) (rm : Room) (as' : Array Value) (h0 : Heap) (Q : Option Value → Heap → List Loc → Prop) : Prop :=
  MetFree l y (head1 (Jvm.Cond.code y bytes maxL ret :: ws) rm) (fun a U => a = as' ∧ Z.Warmed39 U.vm ∧ U.heap = h0 ∧ CHv Z EL U.vm h0 ∧ ∀ x ∈ SL, Safe Z EL U.vm h0 x) (fun _ _ _ _ _ => True) (fun _ U o U' => ∃ v L, o = .returned v ∧ Q v U'.heap L ∧ CHr Z EL U.vm U.heap U'.vm U'.heap ∧ ReturnedEndW U o U' L rm.cells rm.slots)
theorem CtrH.of {SL : List Addr} {y : MethodName} {bytes : ByteArray} {maxL : Nat} {ret : Option FieldType} {ws : List Jvm.Cond} {rm : Room} {as' : Array Value} {h0 : Heap} (hp : plainFor y = true)
    (body : ∀ (p : Program) (e : Env) (s : State) (m : MethodId) (below : List Frame) (meth : Method) (c : Code) (s₁ : State), p.tables.exec = Jvm.exec → c.code = bytes → c.maxLocals = maxL → meth.sig.returnType = ret → (s.setVm s.vm).vm.findClass y.cls = some m.cls → meth.name = y.name → Z.Warmed39 (s.setVm s.vm).vm → meth.locks = false → Stand p l e rm (s.setVm s.vm) m as' below meth c s₁ [] 0 0 → s₁.heap = h0 → s.Since s.vm 0 → CHr Z EL s.vm s.heap s.vm h0 → (∀ x ∈ SL, Safe Z EL s.vm h0 x) → Goes p e below (FinH Z EL s rm.cells rm.slots Q) s₁ (entryFrame m as' maxL)) :
    CtrH l Z EL SL y bytes maxL ret ws rm as' h0 Q := by
  refine MetFree.of_bodySF hp hisR ?_
  intro p e s m args below meth c s₁ Bd hml hP hK
  obtain ⟨rfl, hZ, hh, hv, hs⟩ := hP
  have X : Stand p l e rm s m args below meth c s₁ [] 0 0 := Stand.of_body Bd
  refine body p e s m below meth c s₁ Bd.exec Bd.bytes hml Bd.returns (findClass_of_methodNamed Bd.named) (name_of_methodNamed Bd.named Bd.method).1 hZ Bd.notSynchronized X (by rw [← hh, Bd.state]; rfl) ((State.WarmedH.refl s).since 0) ?_ hs
  rw [hh]; exact CHr.refl hv
/-- the payer of such a contract; what is asked of the addresses SL goes on to the tables at hand -/
theorem backOfSG {SL : List Addr} {y : MethodName} {bytes : ByteArray} {maxL : Nat} {ret : Option FieldType} {rm : Room} {len W : Nat} {as' : Array Value}
    (hM : CtrH l Z EL SL y bytes maxL ret [] rm as' h Q) (hZ : Z.Warmed39 vm0) (wc : (Jvm.Cond.code y bytes maxL ret).before a0 Z = true) (wz : (Jvm.Cond.initialized y.cls).before a0 Z = true) (hf : rm.frames + 1 ≤ R.frames) (hl : W + (maxL + 11) + rm.locals ≤ R.locals) (hEL : EW Z a0 EL) (H : CHv Z EL vm0 h) (hsl : ∀ x ∈ SL, x < h.size ∧ Safe Z EL vm0 h x) :
    BackS l R p e below (s.setVm vm0) args y len W (fun A a => a = as' ∧ A.U.heap = h ∧ A.cells + rm.cells ≤ R.cells ∧ A.slots + rm.slots ≤ R.slots)
      (fun A _ v B => ∃ L, Q v B.U.heap L ∧ B.locs = A.locs ++ L ∧ B.cells = A.cells + rm.cells ∧ B.slots = A.slots + rm.slots ∧ CHr Z EL vm0 h B.U.vm B.U.heap) :=
  BackS.of_freeW (bytes := bytes) (maxL := maxL) (ret := ret) (E := fun _ first o t L k n => k = rm.cells ∧ n = rm.slots ∧ (∃ v, o = .returned v ∧ Q v t.heap L) ∧ CHr Z EL first.vm first.heap t.vm t.heap) hM hf hl
    (fun m meth c A a Y hp => have hU : Z.Warmed39 A.U.vm := wtrans (s := s.setVm vm0) hZ Y.warmed
      ⟨by show (Jvm.Cond.and _ .tt).before a A.U = true; rw [Cond.before_and, mv hU wc]; rfl, mv hU wc, mv hU wz, hp.2.2.1, hp.2.2.2⟩)
    (fun m meth c A a g mk Y hp => have q := CHv.at Y hZ hEL H
      ⟨hp.1, wtrans (s := s.setVm vm0) hZ Y.warmed, hp.2.1, q.1, fun x hx => q.safe (hsl x hx).1 (hsl x hx).2⟩) (fun _ _ _ _ _ _ _ _ _ => trivial)
    (fun _ _ _ _ ⟨v, L, h1, h2, h3, h4⟩ => ⟨L, _, _, h4, rfl, rfl, ⟨v, h1, h2⟩, h3⟩)
    (fun m meth c A a g mk v t L k n Y hp _ _ ⟨e1, e2, ⟨v', e3, e4⟩, e5⟩ => by
      cases e3; subst e1 e2
      refine ⟨L, e4, rfl, rfl, rfl, (CHv.at Y hZ hEL H).trans ?_⟩
      rw [← hp.2.1]; exact e5)
theorem gLdcO (X : Stand p l e R (s.setVm vm0) m args below meth c T locs cells slots) (hx : p.tables.exec = Jvm.exec) (hZ : Z.Warmed39 (s.setVm vm0).vm) {own text : String} {i : Nat} (hown : (s.setVm vm0).vm.findClass own = some m.cls) (w : (Jvm.Cond.stringLink own i text).before a0 Z = true) (wS : ∀ a ∈ Bundle.stringAtoms, a.before a0 Z = true) (eT : T.heap = h) (hS : s.Since vm0 k0) (hk : k0 ≤ h.size) (hEL : EW Z a0 EL) (H : CHr Z EL s.vm s.heap vm0 h)
    (hd : decode c.code pc = .ok (.ldc i, 2)) (hp : pc + 2 = pc') {n : Nat} (hn : 4 * text.toList.length ≤ n) (hbig : n ≤ 536870912) (hc : cells + 2 ≤ R.cells) (hl : slots + (n + 4) ≤ R.slots)
    (k : ∀ a T' h' k1, Stand p l e R (s.setVm T'.vm) m args below meth c T' locs (cells + 2) (slots + (n + 4)) → T'.heap = h' → Ext h h' → s.Since T'.vm k1 → k1 ≤ h'.size → Z.Warmed39 (s.setVm T'.vm).vm → (s.setVm T'.vm).vm.findClass own = some m.cls → CHr Z EL vm0 h T'.vm h' → CHr Z EL s.vm s.heap T'.vm h' → Goes p e below F T' (mkF m pc' ls (.ref a :: st))) : Goes p e below F T (mkF m pc ls st) := by
  subst hp
  obtain ⟨a, T', h', k1, X', e', E, hS', hk', hZ', ho', hC, -, st'⟩ := ldcOH X hx hZ hown w wS eT hS hk hEL H.1 (g := mkF m pc ls st) rfl hd hn hbig hc hl
  exact Goes.fore st' (k a T' h' k1 X' e' E hS' hk' hZ' ho' hC (H.trans hC))
theorem gLdcC (X : Stand p l e R (s.setVm vm0) m args below meth c T locs cells slots) (hx : p.tables.exec = Jvm.exec) (hZ : Z.Warmed39 (s.setVm vm0).vm) {own text : String} {i : Nat} (hown : (s.setVm vm0).vm.findClass own = some m.cls) (w : (Jvm.Cond.stringLink own i text).before a0 Z = true) (wS : ∀ a ∈ Bundle.stringAtoms, a.before a0 Z = true) (eT : T.heap = h) (hS : s.Since vm0 k0) (hk : k0 ≤ h.size) (hEL : EW Z a0 EL) (hmem : (own, i) ∈ EL) (H : CHr Z EL s.vm s.heap vm0 h)
    {vs : List Value} {z : Int32} (ht : (∀ c ∈ text.toList, c.toNat < 256) ∧ text.toList.map (fun c => Value.int (Jvm.Lit.byteI c.toNat.toUInt16)) = vs) (hz : ¬ z < 0) (hlz : z.toNatClampNeg = vs.length)
    (hd : decode c.code pc = .ok (.ldc i, 2)) (hp : pc + 2 = pc') {n : Nat} (hn : 4 * text.toList.length ≤ n) (hbig : n ≤ 536870912) (hc : cells + 2 ≤ R.cells) (hl : slots + (n + 4) ≤ R.slots)
    (k : ∀ a T' h' k1 b ck, Stand p l e R (s.setVm T'.vm) m args below meth c T' locs (cells + 2) (slots + (n + 4)) → T'.heap = h' → Ext h h' → s.Since T'.vm k1 → k1 ≤ h'.size → Z.Warmed39 (s.setVm T'.vm).vm → (s.setVm T'.vm).vm.findClass own = some m.cls → CHr Z EL vm0 h T'.vm h' → CHr Z EL s.vm s.heap T'.vm h' →
      Exa Z h' a "java/lang/String" → Fld Z h' a "java/lang/String" "coder" "B" (.int 0) → Fld Z h' a "java/lang/String" "value" "[B" (.ref b) → Arv Z h' b ck .byte z vs (.int 0) → (∀ x, Safe Z EL T'.vm h' x → x ≠ a ∧ x ≠ b) → Goes p e below F T' (mkF m pc' ls (.ref a :: st))) : Goes p e below F T (mkF m pc ls st) := by
  subst hp
  obtain ⟨a, T', h', k1, b, ck, X', e', E, hS', hk', hZ', ho', Ex, Fc, Fv, A, -, -, hC, -, hsafe, st'⟩ := ldcCH X hx hZ hown w wS eT hS hk hEL hmem H.1 ht hz hlz (g := mkF m pc ls st) rfl hd hn hbig hc hl
  exact Goes.fore st' (k a T' h' k1 b ck X' e' E hS' hk' hZ' ho' hC (H.trans hC) Ex Fc Fv A hsafe)
theorem gRetH0 {v : Option Value} (X : Stand p l e R (s.setVm vm0) m args below meth c T locs cells slots) (hx : p.tables.exec = Jvm.exec) (hlk : meth.locks = false) (hv : meth.sig.returnType = none → v = none) (eT : T.heap = h) (hS : s.Since vm0 k0) (hk : k0 ≤ h.size) (hZ : Z.Warmed39 (s.setVm vm0).vm) (hEL : EW Z a0 EL) (H : CHr Z EL s.vm s.heap vm0 h) (hkc : cells ≤ kc) (hks : slots ≤ ks) (hq : Q v T.heap locs) {g : JFrame}
    (k : ∀ fs, (∀ (f : JFrame) (acts : List Action), f.method = m → f.locked = none → f.entered = [] → (doReturn e (T.setTop f) acts v).1 = T.setFrames fs) → Steps p.tables e below (T.setTop g) (T.setFrames fs)) : Goes p e below (FinH Z EL s kc ks Q) T g := by
  obtain ⟨fs, hr, hrun, hended, hW⟩ := X.leaveW hS (by rw [eT]; exact hk) hv hlk
  refine ⟨_, _, k fs hr, hrun, hended, _, _, rfl, hq, ?_, hW.1, hW.2.1, hW.2.2.1, hW.2.2.2.mono hkc hks⟩
  have q := CHv.at X hZ hEL H.1
  have e2 : (T.setFrames fs).heap = h := eT
  rw [e2]
  exact H.trans q
theorem gRetHN (X : Stand p l e R (s.setVm vm0) m args below meth c T locs cells slots) (hx : p.tables.exec = Jvm.exec) (hlk : meth.locks = false) {t : FieldType} (hret : meth.sig.returnType = some t) (ht : t = .boolean ∨ t = .byte ∨ t = .char ∨ t = .short) {z w : Int32} (hd : decode c.code pc = .ok (.ireturn, 1)) (hw : nar t z = w) (eT : T.heap = h) (hS : s.Since vm0 k0) (hk : k0 ≤ h.size) (hZ : Z.Warmed39 (s.setVm vm0).vm) (hEL : EW Z a0 EL) (H : CHr Z EL s.vm s.heap vm0 h) (hkc : cells ≤ kc) (hks : slots ≤ ks) (hq : Q (some (.int w)) T.heap locs) : Goes p e below (FinH Z EL s kc ks Q) T (mkF m pc ls (.int z :: st)) := by
  subst hw
  exact gRetH0 X hx hlk (fun h => by rw [hret] at h; cases h) eT hS hk hZ hEL H hkc hks hq fun fs hr => retN X hx hret ht hd hr
theorem gRetHV (X : Stand p l e R (s.setVm vm0) m args below meth c T locs cells slots) (hx : p.tables.exec = Jvm.exec) (hlk : meth.locks = false) (hret : meth.sig.returnType = none) (hd : decode c.code pc = .ok (.return_, 1)) (eT : T.heap = h) (hS : s.Since vm0 k0) (hk : k0 ≤ h.size) (hZ : Z.Warmed39 (s.setVm vm0).vm) (hEL : EW Z a0 EL) (H : CHr Z EL s.vm s.heap vm0 h) (hkc : cells ≤ kc) (hks : slots ≤ ks) (hq : Q none T.heap locs) : Goes p e below (FinH Z EL s kc ks Q) T (mkF m pc ls []) :=
  gRetH0 X hx hlk (fun _ => rfl) eT hS hk hZ hEL H hkc hks hq fun fs hr => X.returnOut hx hret hd hr
theorem gRetHA (X : Stand p l e R (s.setVm vm0) m args below meth c T locs cells slots) (hx : p.tables.exec = Jvm.exec) (hlk : meth.locks = false) {t : FieldType} (hret : meth.sig.returnType = some t) (ht : t.isReference = true) {v : Value} (hv : v.isRef = true) (hd : decode c.code pc = .ok (.areturn, 1)) (eT : T.heap = h) (hS : s.Since vm0 k0) (hk : k0 ≤ h.size) (hZ : Z.Warmed39 (s.setVm vm0).vm) (hEL : EW Z a0 EL) (H : CHr Z EL s.vm s.heap vm0 h) (hkc : cells ≤ kc) (hks : slots ≤ ks) (hq : Q (some v) T.heap locs) : Goes p e below (FinH Z EL s kc ks Q) T (mkF m pc ls (v :: st)) :=
  gRetH0 X hx hlk (fun h => by rw [hret] at h; cases h) eT hS hk hZ hEL H hkc hks hq fun fs hr => retOut X hx hret (by cases t <;> first | rfl | cases ht) (Or.inr (Or.inr (Or.inr (Or.inr ⟨rfl, ht, hv⟩)))) hd hr
theorem gCallSH (X : Stand p l e R (s.setVm vm0) m args below meth c T locs cells slots) (hx : p.tables.exec = Jvm.exec) (hZ : Z.Warmed39 (s.setVm vm0).vm) {y : MethodName} {bytes : ByteArray} {maxL : Nat} {ret : Option FieldType} {rm : Room} {own : String} {i : Nat} {Qc : Option Value → Heap → List Loc → Prop} (hown : (s.setVm vm0).vm.findClass own = some m.cls) (eT : T.heap = h) (hml : ls.size = c.maxLocals) (hS : s.Since vm0 k0) (hk : k0 ≤ h.size) (hEL : EW Z a0 EL) (H : CHr Z EL s.vm s.heap vm0 h)
    (w1 : (Jvm.Cond.methodLink own i y).before a0 Z = true) (w2 : (Jvm.Cond.static y).before a0 Z = true) (w3 : (Jvm.Cond.initialized y.cls).before a0 Z = true) (w4 : (Jvm.Cond.code y bytes maxL ret).before a0 Z = true) (hy : y.cls ≠ "java/lang/invoke/MethodHandle" ∧ y.cls ≠ "java/lang/invoke/VarHandle")
    {SL : List Addr} (hsf : ∀ x ∈ SL, x < h.size ∧ Safe Z EL vm0 h x) {argsL : List Value} {stk : List Value} (hC : CtrH l Z EL SL y bytes maxL ret [] rm argsL.toArray h Qc) (hlen : ∀ sig, parseMethodDescriptor y.desc = some sig → argsL.length = sig.parameters.length) (hd : decode c.code pc = .ok (.invokestatic i, 3)) (hp : pc + 3 = pc') (hst : stk = argsL.reverse ++ st)
    (hf : rm.frames + 1 ≤ R.frames) {W : Nat} (hW : (st.map fun v => v.category).sum ≤ W) (hlo : W + (maxL + 11) + rm.locals ≤ R.locals) (hce : cells + rm.cells ≤ R.cells) (hsl : slots + rm.slots ≤ R.slots)
    (k : ∀ T' v L, Stand p l e R (s.setVm T'.vm) m args below meth c T' (locs ++ L) (cells + rm.cells) (slots + rm.slots) → s.Since T'.vm T'.heap.size → Z.Warmed39 (s.setVm T'.vm).vm → (s.setVm T'.vm).vm.findClass own = some m.cls → CHr Z EL vm0 h T'.vm T'.heap → CHr Z EL s.vm s.heap T'.vm T'.heap → Qc v T'.heap L → Goes p e below F T' (mkF m pc' ls (v.toList ++ st))) : Goes p e below F T (mkF m pc ls stk) := by
  subst hp hst
  obtain ⟨v, vm1, ⟨T', L', k', n'⟩, -, X', hS', hg', ⟨Lc, hQ, l1, y1, z1, hC2⟩, st'⟩ := callSS X hx (y := y) hown (mvT (s := s.setVm vm0) hZ w1) (mvT (s := s.setVm vm0) hZ w2) (mvT (s := s.setVm vm0) hZ w3) (mvT (s := s.setVm vm0) hZ w4) hy (backOfSG (s := s) (W := W) hC hZ w4 w3 hf hlo hEL H.1 hsf) (g := mkF m pc ls (argsL.reverse ++ st)) rfl hml (argsL := argsL) (rest := st) hlen rfl (by show 2 * 0 + _ ≤ _; omega) hd (fun _ _ => ⟨rfl, eT, hce, hsl⟩)
  dsimp only [Pt.U, Pt.locs, Pt.cells, Pt.slots] at X' l1 y1 z1 st' hQ hS' hg' hC2
  subst l1 y1 z1
  exact Goes.tr st' (k T' v Lc X' (foldS hS (by rw [eT]; exact hk) hS' hg') (State.Warmed39.trans (t := s.setVm vm0) hZ hS'.1) (by rw [show (s.setVm T'.vm).vm = T'.vm from rfl, hS'.1.alike.findClass]; exact hown) hC2 (H.trans hC2) hQ)
theorem gCallIH (X : Stand p l e R (s.setVm vm0) m args below meth c T locs cells slots) (hx : p.tables.exec = Jvm.exec) (hZ : Z.Warmed39 (s.setVm vm0).vm) {y : MethodName} {bytes : ByteArray} {maxL : Nat} {rm : Room} {own : String} {i : Nat} {Qc : Option Value → Heap → List Loc → Prop} {a : Addr} (hy1 : y.name = "<init>") (hown : (s.setVm vm0).vm.findClass own = some m.cls) (eT : T.heap = h) (hml : ls.size = c.maxLocals) (hS : s.Since vm0 k0) (hk : k0 ≤ h.size) (hEL : EW Z a0 EL) (H : CHr Z EL s.vm s.heap vm0 h)
    (w1 : (Jvm.Cond.methodLink own i y).before a0 Z = true) (w2 : (Jvm.Cond.instanceMethod y).before a0 Z = true) (w3 : (Jvm.Cond.initialized y.cls).before a0 Z = true) (w4 : (Jvm.Cond.code y bytes maxL none).before a0 Z = true) (hy : y.cls ≠ "java/lang/invoke/MethodHandle" ∧ y.cls ≠ "java/lang/invoke/VarHandle")
    {SL : List Addr} (hsf : ∀ x ∈ SL, x < h.size ∧ Safe Z EL vm0 h x) {argsL : List Value} {stk : List Value} (hC : CtrH l Z EL SL y bytes maxL none [] rm (.ref a :: argsL).toArray h Qc) (hlen : ∀ sig, parseMethodDescriptor y.desc = some sig → argsL.length = sig.parameters.length) (hd : decode c.code pc = .ok (.invokespecial i, 3)) (hp : pc + 3 = pc') (hst : stk = argsL.reverse ++ .ref a :: st)
    (hf : rm.frames + 1 ≤ R.frames) {W : Nat} (hW : (st.map fun v => v.category).sum ≤ W) (hlo : W + (maxL + 11) + rm.locals ≤ R.locals) (hce : cells + rm.cells ≤ R.cells) (hsl : slots + rm.slots ≤ R.slots)
    (k : ∀ T' v L, Stand p l e R (s.setVm T'.vm) m args below meth c T' (locs ++ L) (cells + rm.cells) (slots + rm.slots) → s.Since T'.vm T'.heap.size → Z.Warmed39 (s.setVm T'.vm).vm → (s.setVm T'.vm).vm.findClass own = some m.cls → CHr Z EL vm0 h T'.vm T'.heap → CHr Z EL s.vm s.heap T'.vm T'.heap → Qc v T'.heap L → Goes p e below F T' (mkF m pc' ls (v.toList ++ st))) : Goes p e below F T (mkF m pc ls stk) := by
  subst hp hst
  obtain ⟨v, vm1, ⟨T', L', k', n'⟩, -, X', hS', hg', ⟨Lc, hQ, l1, y1, z1, hC2⟩, st'⟩ := X.specialBackS hx (y := y) hy1 hown (mvT (s := s.setVm vm0) hZ w1) (mvT (s := s.setVm vm0) hZ w2) (mvT (s := s.setVm vm0) hZ w4) hy (backOfSG (s := s) (W := W) hC hZ w4 w3 hf hlo hEL H.1 hsf) (g := mkF m pc ls (argsL.reverse ++ .ref a :: st)) rfl hml (Steps.refl _) (a := a) (argsL := argsL) (rest := st) hlen rfl (by show 2 * 0 + _ ≤ _; omega) hd (fun _ _ => ⟨rfl, eT, hce, hsl⟩)
  dsimp only [Pt.U, Pt.locs, Pt.cells, Pt.slots] at X' l1 y1 z1 st' hQ hS' hg' hC2
  subst l1 y1 z1
  exact Goes.tr st' (k T' v Lc X' (foldS hS (by rw [eT]; exact hk) hS' hg') (State.Warmed39.trans (t := s.setVm vm0) hZ hS'.1) (by rw [show (s.setVm T'.vm).vm = T'.vm from rfl, hS'.1.alike.findClass]; exact hown) hC2 (H.trans hC2) hQ)
theorem sl0 : ∀ x ∈ ([] : List Addr), x < h.size ∧ Safe Z EL vm0 h x := fun _ q => nomatch q
theorem sl1 {x : Addr} (q : x < h.size) (r : Safe Z EL vm0 h x) : ∀ y ∈ [x], y < h.size ∧ Safe Z EL vm0 h y := fun y z => by cases List.mem_singleton.mp z; exact ⟨q, r⟩
end OwnWide
theorem d_jdk_65_method_59_0 : decode jdk_65_method_59_code 0 = .ok (.iload_n 1, 1) := by decide +kernel
theorem d_jdk_65_method_59_1 : decode jdk_65_method_59_code 1 = .ok (.istore 4, 2) := by decide +kernel
theorem d_jdk_65_method_59_3 : decode jdk_65_method_59_code 3 = .ok (.iload_n 2, 1) := by decide +kernel
theorem d_jdk_65_method_59_4 : decode jdk_65_method_59_code 4 = .ok (.iconst 1, 1) := by decide +kernel
theorem d_jdk_65_method_59_5 : decode jdk_65_method_59_code 5 = .ok (.isub, 1) := by decide +kernel
theorem d_jdk_65_method_59_6 : decode jdk_65_method_59_code 6 = .ok (.istore 5, 2) := by decide +kernel
theorem d_jdk_65_method_59_8 : decode jdk_65_method_59_code 8 = .ok (.iload 4, 2) := by decide +kernel
theorem d_jdk_65_method_59_10 : decode jdk_65_method_59_code 10 = .ok (.iload 5, 2) := by decide +kernel
theorem d_jdk_65_method_59_12 : decode jdk_65_method_59_code 12 = .ok (.if_icmp .gt 54, 3) := by decide +kernel
theorem d_jdk_65_method_59_15 : decode jdk_65_method_59_code 15 = .ok (.iload 4, 2) := by decide +kernel
theorem d_jdk_65_method_59_17 : decode jdk_65_method_59_code 17 = .ok (.iload 5, 2) := by decide +kernel
theorem d_jdk_65_method_59_19 : decode jdk_65_method_59_code 19 = .ok (.iadd, 1) := by decide +kernel
theorem d_jdk_65_method_59_20 : decode jdk_65_method_59_code 20 = .ok (.iconst 1, 1) := by decide +kernel
theorem d_jdk_65_method_59_21 : decode jdk_65_method_59_code 21 = .ok (.iushr, 1) := by decide +kernel
theorem d_jdk_65_method_59_22 : decode jdk_65_method_59_code 22 = .ok (.istore 6, 2) := by decide +kernel
theorem d_jdk_65_method_59_24 : decode jdk_65_method_59_code 24 = .ok (.aload_n 0, 1) := by decide +kernel
theorem d_jdk_65_method_59_25 : decode jdk_65_method_59_code 25 = .ok (.iload 6, 2) := by decide +kernel
theorem d_jdk_65_method_59_27 : decode jdk_65_method_59_code 27 = .ok (.iaload, 1) := by decide +kernel
theorem d_jdk_65_method_59_28 : decode jdk_65_method_59_code 28 = .ok (.istore 7, 2) := by decide +kernel
theorem d_jdk_65_method_59_30 : decode jdk_65_method_59_code 30 = .ok (.iload 7, 2) := by decide +kernel
theorem d_jdk_65_method_59_32 : decode jdk_65_method_59_code 32 = .ok (.iload_n 3, 1) := by decide +kernel
theorem d_jdk_65_method_59_33 : decode jdk_65_method_59_code 33 = .ok (.if_icmp .ge 12, 3) := by decide +kernel
theorem d_jdk_65_method_59_45 : decode jdk_65_method_59_code 45 = .ok (.iload 7, 2) := by decide +kernel
theorem d_jdk_65_method_59_47 : decode jdk_65_method_59_code 47 = .ok (.iload_n 3, 1) := by decide +kernel
theorem d_jdk_65_method_59_48 : decode jdk_65_method_59_code 48 = .ok (.if_icmp .le 12, 3) := by decide +kernel
theorem d_jdk_65_method_59_60 : decode jdk_65_method_59_code 60 = .ok (.iload 6, 2) := by decide +kernel
theorem d_jdk_65_method_59_62 : decode jdk_65_method_59_code 62 = .ok (.ireturn, 1) := by decide +kernel
theorem d_jdk_65_method_59_51 : decode jdk_65_method_59_code 51 = .ok (.iload 6, 2) := by decide +kernel
theorem d_jdk_65_method_59_53 : decode jdk_65_method_59_code 53 = .ok (.iconst 1, 1) := by decide +kernel
theorem d_jdk_65_method_59_54 : decode jdk_65_method_59_code 54 = .ok (.isub, 1) := by decide +kernel
theorem d_jdk_65_method_59_55 : decode jdk_65_method_59_code 55 = .ok (.istore 5, 2) := by decide +kernel
theorem d_jdk_65_method_59_57 : decode jdk_65_method_59_code 57 = .ok (.goto 6, 3) := by decide +kernel
theorem d_jdk_65_method_59_63 : decode jdk_65_method_59_code 63 = .ok (.goto (-55), 3) := by decide +kernel
theorem d_jdk_65_method_59_66 : decode jdk_65_method_59_code 66 = .ok (.iload 4, 2) := by decide +kernel
theorem d_jdk_65_method_59_68 : decode jdk_65_method_59_code 68 = .ok (.iconst 1, 1) := by decide +kernel
theorem d_jdk_65_method_59_69 : decode jdk_65_method_59_code 69 = .ok (.iadd, 1) := by decide +kernel
theorem d_jdk_65_method_59_70 : decode jdk_65_method_59_code 70 = .ok (.ineg, 1) := by decide +kernel
theorem d_jdk_65_method_59_71 : decode jdk_65_method_59_code 71 = .ok (.ireturn, 1) := by decide +kernel
theorem d_jdk_65_method_59_36 : decode jdk_65_method_59_code 36 = .ok (.iload 6, 2) := by decide +kernel
theorem d_jdk_65_method_59_38 : decode jdk_65_method_59_code 38 = .ok (.iconst 1, 1) := by decide +kernel
theorem d_jdk_65_method_59_39 : decode jdk_65_method_59_code 39 = .ok (.iadd, 1) := by decide +kernel
theorem d_jdk_65_method_59_40 : decode jdk_65_method_59_code 40 = .ok (.istore 4, 2) := by decide +kernel
theorem d_jdk_65_method_59_42 : decode jdk_65_method_59_code 42 = .ok (.goto 21, 3) := by decide +kernel
theorem pn_3 : plainName "java/util/Arrays" = true := by first | (simp [plainName, overriddenIn]; done) | decide +kernel
theorem ef_c_bs0_1 (m : MethodId) (x : Addr) (i : Int32) : entryFrame m #[(.ref x), (.int (0 : Int32)), (.int (1 : Int32)), (.int i)] 8 = mkF m 0 #[.val (.ref x), .val (.int (0 : Int32)), .val (.int (1 : Int32)), .val (.int i), .unset, .unset, .unset, .unset] [] := by first | (simp [entryFrame, mkF, argsToLocals, Value.category]; done) | rfl
set_option maxRecDepth 65536 in
set_option maxHeartbeats 40000000 in
theorem c_bs0_1 (l : Launch) (Z : State) (a0 : Array Value) (hw : ∀ d ∈ tables_1, d.before a0 Z = true) (x : Addr) (ck : ClassId) (i : Int32) (h0 : Heap) (hi : 0 ≤ i.toInt) (A : Arv Z h0 x ck .int 1 [(.int (0 : Int32))] (.int 0)) :
    Ctr l Z (⟨"java/util/Arrays", "binarySearch0", "([IIII)I"⟩ : MethodName) jdk_65_method_59_code 8 (some .int) [] ({ frames := 0, cells := 0, slots := 0, locals := 0 } : Room) #[(.ref x), (.int (0 : Int32)), (.int (1 : Int32)), (.int i)] h0 (fun v h L => ∃ r : Int32, v = some (.int r) ∧ h = h0 ∧ L = [] ∧ ((r.toInt = 0 ∨ r.toInt = -2) ∧ 0 ≤ i.toInt)) := by
  refine Ctr.of (plainFor_of_name pn_3) ?_
  intro p e s m below meth c s₁ hx hby hml hret hown hnm hZ hlk X0 e0
  refine Goes.cast (ef_c_bs0_1 m x i) ?_
  refine gLoadIN X0 hx (hb hby d_jdk_65_method_59_0) (pc' := 1) rfl rfl ?_
  refine gStoreI X0 hx (hb hby d_jdk_65_method_59_1) (l' := #[.val (.ref x), .val (.int (0 : Int32)), .val (.int (1 : Int32)), .val (.int i), .val (.int (0 : Int32)), .unset, .unset, .unset]) (pc' := 3) rfl rfl ?_
  refine gLoadIN X0 hx (hb hby d_jdk_65_method_59_3) (pc' := 4) rfl rfl ?_
  refine gIconst X0 hx (v := (1 : Int32)) (hb hby d_jdk_65_method_59_4) (pc' := 5) rfl rfl ?_
  refine gIsub X0 hx (hb hby d_jdk_65_method_59_5) (pc' := 6) rfl ?_
  show Goes p e below _ s₁ (mkF m 6 #[.val (.ref x), .val (.int (0 : Int32)), .val (.int (1 : Int32)), .val (.int i), .val (.int (0 : Int32)), .unset, .unset, .unset] [(.int (0 : Int32))])
  refine gStoreI X0 hx (hb hby d_jdk_65_method_59_6) (l' := #[.val (.ref x), .val (.int (0 : Int32)), .val (.int (1 : Int32)), .val (.int i), .val (.int (0 : Int32)), .val (.int (0 : Int32)), .unset, .unset]) (pc' := 8) rfl rfl ?_
  refine gLoadI X0 hx (hb hby d_jdk_65_method_59_8) (pc' := 10) rfl rfl ?_
  refine gLoadI X0 hx (hb hby d_jdk_65_method_59_10) (pc' := 12) rfl rfl ?_
  refine gIcmpGt X0 hx (hb hby d_jdk_65_method_59_12) (pc' := 66) (by decide) (by decide) (pn := 15) rfl (fun (c12 : (0 : Int) < (0 : Int)) => ?_) (fun (c12 : (0 : Int) ≤ (0 : Int)) => ?_)
  · exact absurd c12 (by decide)
  · refine gLoadI X0 hx (hb hby d_jdk_65_method_59_15) (pc' := 17) rfl rfl ?_
    refine gLoadI X0 hx (hb hby d_jdk_65_method_59_17) (pc' := 19) rfl rfl ?_
    refine gIadd X0 hx (hb hby d_jdk_65_method_59_19) (pc' := 20) rfl ?_
    show Goes p e below _ s₁ (mkF m 20 #[.val (.ref x), .val (.int (0 : Int32)), .val (.int (1 : Int32)), .val (.int i), .val (.int (0 : Int32)), .val (.int (0 : Int32)), .unset, .unset] [(.int (0 : Int32))])
    refine gIconst X0 hx (v := (1 : Int32)) (hb hby d_jdk_65_method_59_20) (pc' := 21) rfl rfl ?_
    refine gIushr X0 hx (hb hby d_jdk_65_method_59_21) (pc' := 22) rfl ?_
    show Goes p e below _ s₁ (mkF m 22 #[.val (.ref x), .val (.int (0 : Int32)), .val (.int (1 : Int32)), .val (.int i), .val (.int (0 : Int32)), .val (.int (0 : Int32)), .unset, .unset] [(.int (0 : Int32))])
    refine gStoreI X0 hx (hb hby d_jdk_65_method_59_22) (l' := #[.val (.ref x), .val (.int (0 : Int32)), .val (.int (1 : Int32)), .val (.int i), .val (.int (0 : Int32)), .val (.int (0 : Int32)), .val (.int (0 : Int32)), .unset]) (pc' := 24) rfl rfl ?_
    refine gLoadAN X0 hx (hb hby d_jdk_65_method_59_24) (pc' := 25) rfl rfl rfl ?_
    refine gLoadI X0 hx (hb hby d_jdk_65_method_59_25) (pc' := 27) rfl rfl ?_
    refine gIaload X0 hx hZ e0 A (j := (0 : Int32)) (v := (.int (0 : Int32))) (by decide) (by decide) rfl (hb hby d_jdk_65_method_59_27) (pc' := 28) rfl ?_
    refine gStoreI X0 hx (hb hby d_jdk_65_method_59_28) (l' := #[.val (.ref x), .val (.int (0 : Int32)), .val (.int (1 : Int32)), .val (.int i), .val (.int (0 : Int32)), .val (.int (0 : Int32)), .val (.int (0 : Int32)), .val (.int (0 : Int32))]) (pc' := 30) rfl rfl ?_
    refine gLoadI X0 hx (hb hby d_jdk_65_method_59_30) (pc' := 32) rfl rfl ?_
    refine gLoadIN X0 hx (hb hby d_jdk_65_method_59_32) (pc' := 33) rfl rfl ?_
    refine gIcmpGe X0 hx (hb hby d_jdk_65_method_59_33) (pc' := 45) (by decide) (by decide) (pn := 36) rfl (fun (c33 : i.toInt ≤ (0 : Int)) => ?_) (fun (c33 : (0 : Int) < i.toInt) => ?_)
    · refine gLoadI X0 hx (hb hby d_jdk_65_method_59_45) (pc' := 47) rfl rfl ?_
      refine gLoadIN X0 hx (hb hby d_jdk_65_method_59_47) (pc' := 48) rfl rfl ?_
      refine gIcmpLe X0 hx (hb hby d_jdk_65_method_59_48) (pc' := 60) (by decide) (by decide) (pn := 51) rfl (fun (c48 : (0 : Int) ≤ i.toInt) => ?_) (fun (c48 : i.toInt < (0 : Int)) => ?_)
      · refine gLoadI X0 hx (hb hby d_jdk_65_method_59_60) (pc' := 62) rfl rfl ?_
        exact gRetI X0 hx hlk hret (hb hby d_jdk_65_method_59_62) (by decide) (by decide) (⟨_, rfl, e0, rfl, by have hr : (0 : Int32).toInt = 0 := (by decide); omega⟩)
      · refine gLoadI X0 hx (hb hby d_jdk_65_method_59_51) (pc' := 53) rfl rfl ?_
        refine gIconst X0 hx (v := (1 : Int32)) (hb hby d_jdk_65_method_59_53) (pc' := 54) rfl rfl ?_
        refine gIsub X0 hx (hb hby d_jdk_65_method_59_54) (pc' := 55) rfl ?_
        show Goes p e below _ s₁ (mkF m 55 #[.val (.ref x), .val (.int (0 : Int32)), .val (.int (1 : Int32)), .val (.int i), .val (.int (0 : Int32)), .val (.int (0 : Int32)), .val (.int (0 : Int32)), .val (.int (0 : Int32))] [(.int (-1 : Int32))])
        refine gStoreI X0 hx (hb hby d_jdk_65_method_59_55) (l' := #[.val (.ref x), .val (.int (0 : Int32)), .val (.int (1 : Int32)), .val (.int i), .val (.int (0 : Int32)), .val (.int (-1 : Int32)), .val (.int (0 : Int32)), .val (.int (0 : Int32))]) (pc' := 57) rfl rfl ?_
        refine gGoto X0 hx (hb hby d_jdk_65_method_59_57) (pc' := 63) (by decide) (by decide) ?_
        refine gGoto X0 hx (hb hby d_jdk_65_method_59_63) (pc' := 8) (by decide) (by decide) ?_
        refine gLoadI X0 hx (hb hby d_jdk_65_method_59_8) (pc' := 10) rfl rfl ?_
        refine gLoadI X0 hx (hb hby d_jdk_65_method_59_10) (pc' := 12) rfl rfl ?_
        refine gIcmpGt X0 hx (hb hby d_jdk_65_method_59_12) (pc' := 66) (by decide) (by decide) (pn := 15) rfl (fun (c12' : (-1 : Int) < (0 : Int)) => ?_) (fun (c12' : (0 : Int) ≤ (-1 : Int)) => ?_)
        · refine gLoadI X0 hx (hb hby d_jdk_65_method_59_66) (pc' := 68) rfl rfl ?_
          refine gIconst X0 hx (v := (1 : Int32)) (hb hby d_jdk_65_method_59_68) (pc' := 69) rfl rfl ?_
          refine gIadd X0 hx (hb hby d_jdk_65_method_59_69) (pc' := 70) rfl ?_
          show Goes p e below _ s₁ (mkF m 70 #[.val (.ref x), .val (.int (0 : Int32)), .val (.int (1 : Int32)), .val (.int i), .val (.int (0 : Int32)), .val (.int (-1 : Int32)), .val (.int (0 : Int32)), .val (.int (0 : Int32))] [(.int (1 : Int32))])
          refine gIneg X0 hx (hb hby d_jdk_65_method_59_70) (pc' := 71) rfl ?_
          show Goes p e below _ s₁ (mkF m 71 #[.val (.ref x), .val (.int (0 : Int32)), .val (.int (1 : Int32)), .val (.int i), .val (.int (0 : Int32)), .val (.int (-1 : Int32)), .val (.int (0 : Int32)), .val (.int (0 : Int32))] [(.int (-1 : Int32))])
          exact gRetI X0 hx hlk hret (hb hby d_jdk_65_method_59_71) (by decide) (by decide) (⟨_, rfl, e0, rfl, by have hr : (-1 : Int32).toInt = -1 := (by decide); omega⟩)
        · exact absurd c12' (by decide)
    · refine gLoadI X0 hx (hb hby d_jdk_65_method_59_36) (pc' := 38) rfl rfl ?_
      refine gIconst X0 hx (v := (1 : Int32)) (hb hby d_jdk_65_method_59_38) (pc' := 39) rfl rfl ?_
      refine gIadd X0 hx (hb hby d_jdk_65_method_59_39) (pc' := 40) rfl ?_
      show Goes p e below _ s₁ (mkF m 40 #[.val (.ref x), .val (.int (0 : Int32)), .val (.int (1 : Int32)), .val (.int i), .val (.int (0 : Int32)), .val (.int (0 : Int32)), .val (.int (0 : Int32)), .val (.int (0 : Int32))] [(.int (1 : Int32))])
      refine gStoreI X0 hx (hb hby d_jdk_65_method_59_40) (l' := #[.val (.ref x), .val (.int (0 : Int32)), .val (.int (1 : Int32)), .val (.int i), .val (.int (1 : Int32)), .val (.int (0 : Int32)), .val (.int (0 : Int32)), .val (.int (0 : Int32))]) (pc' := 42) rfl rfl ?_
      refine gGoto X0 hx (hb hby d_jdk_65_method_59_42) (pc' := 63) (by decide) (by decide) ?_
      refine gGoto X0 hx (hb hby d_jdk_65_method_59_63) (pc' := 8) (by decide) (by decide) ?_
      refine gLoadI X0 hx (hb hby d_jdk_65_method_59_8) (pc' := 10) rfl rfl ?_
      refine gLoadI X0 hx (hb hby d_jdk_65_method_59_10) (pc' := 12) rfl rfl ?_
      refine gIcmpGt X0 hx (hb hby d_jdk_65_method_59_12) (pc' := 66) (by decide) (by decide) (pn := 15) rfl (fun (c12' : (0 : Int) < (1 : Int)) => ?_) (fun (c12' : (1 : Int) ≤ (0 : Int)) => ?_)
      · refine gLoadI X0 hx (hb hby d_jdk_65_method_59_66) (pc' := 68) rfl rfl ?_
        refine gIconst X0 hx (v := (1 : Int32)) (hb hby d_jdk_65_method_59_68) (pc' := 69) rfl rfl ?_
        refine gIadd X0 hx (hb hby d_jdk_65_method_59_69) (pc' := 70) rfl ?_
        show Goes p e below _ s₁ (mkF m 70 #[.val (.ref x), .val (.int (0 : Int32)), .val (.int (1 : Int32)), .val (.int i), .val (.int (1 : Int32)), .val (.int (0 : Int32)), .val (.int (0 : Int32)), .val (.int (0 : Int32))] [(.int (2 : Int32))])
        refine gIneg X0 hx (hb hby d_jdk_65_method_59_70) (pc' := 71) rfl ?_
        show Goes p e below _ s₁ (mkF m 71 #[.val (.ref x), .val (.int (0 : Int32)), .val (.int (1 : Int32)), .val (.int i), .val (.int (1 : Int32)), .val (.int (0 : Int32)), .val (.int (0 : Int32)), .val (.int (0 : Int32))] [(.int (-2 : Int32))])
        exact gRetI X0 hx hlk hret (hb hby d_jdk_65_method_59_71) (by decide) (by decide) (⟨_, rfl, e0, rfl, by have hr : (-2 : Int32).toInt = -2 := (by decide); omega⟩)
      · exact absurd c12' (by decide)
theorem d_jdk_65_method_57_0 : decode jdk_65_method_57_code 0 = .ok (.aload_n 0, 1) := by decide +kernel
theorem d_jdk_65_method_57_1 : decode jdk_65_method_57_code 1 = .ok (.iconst 0, 1) := by decide +kernel
theorem d_jdk_65_method_57_2 : decode jdk_65_method_57_code 2 = .ok (.aload_n 0, 1) := by decide +kernel
theorem d_jdk_65_method_57_3 : decode jdk_65_method_57_code 3 = .ok (.arraylength, 1) := by decide +kernel
theorem d_jdk_65_method_57_4 : decode jdk_65_method_57_code 4 = .ok (.iload_n 1, 1) := by decide +kernel
theorem d_jdk_65_method_57_5 : decode jdk_65_method_57_code 5 = .ok (.invokestatic 209, 3) := by decide +kernel
theorem pd_4 : parseMethodDescriptor "([IIII)I" = some ⟨[(.array .int), .int, .int, .int], some .int⟩ := by decide +kernel
theorem d_jdk_65_method_57_8 : decode jdk_65_method_57_code 8 = .ok (.ireturn, 1) := by decide +kernel
theorem ef_c_bs_1 (m : MethodId) (x : Addr) (i : Int32) : entryFrame m #[(.ref x), (.int i)] 2 = mkF m 0 #[.val (.ref x), .val (.int i)] [] := by first | (simp [entryFrame, mkF, argsToLocals, Value.category]; done) | rfl
set_option maxRecDepth 65536 in
set_option maxHeartbeats 40000000 in
theorem c_bs_1 (l : Launch) (Z : State) (a0 : Array Value) (hw : ∀ d ∈ tables_1, d.before a0 Z = true) (x : Addr) (ck : ClassId) (i : Int32) (h0 : Heap) (hi : 0 ≤ i.toInt) (A : Arv Z h0 x ck .int 1 [(.int (0 : Int32))] (.int 0)) :
    Ctr l Z (⟨"java/util/Arrays", "binarySearch", "([II)I"⟩ : MethodName) jdk_65_method_57_code 2 (some .int) [] ({ frames := 1, cells := 0, slots := 0, locals := 19 } : Room) #[(.ref x), (.int i)] h0 (fun v h L => ∃ r : Int32, v = some (.int r) ∧ h = h0 ∧ L = [] ∧ ((r.toInt = 0 ∨ r.toInt = -2) ∧ 0 ≤ i.toInt)) := by
  refine Ctr.of (plainFor_of_name pn_3) ?_
  intro p e s m below meth c s₁ hx hby hml hret hown hnm hZ hlk X0 e0
  refine Goes.cast (ef_c_bs_1 m x i) ?_
  refine gLoadAN X0 hx (hb hby d_jdk_65_method_57_0) (pc' := 1) rfl rfl rfl ?_
  refine gIconst X0 hx (v := (0 : Int32)) (hb hby d_jdk_65_method_57_1) (pc' := 2) rfl rfl ?_
  refine gLoadAN X0 hx (hb hby d_jdk_65_method_57_2) (pc' := 3) rfl rfl rfl ?_
  refine gArrLen X0 hx hZ e0 A (hb hby d_jdk_65_method_57_3) (pc' := 4) rfl ?_
  refine gLoadIN X0 hx (hb hby d_jdk_65_method_57_4) (pc' := 5) rfl rfl ?_
  refine gCallS X0 hx hZ (y := (⟨"java/util/Arrays", "binarySearch0", "([IIII)I"⟩ : MethodName)) hown e0 (by rw [hml]; rfl) (hw _ (List.mem_of_getElem? (i := 37) rfl)) (hw _ (List.mem_of_getElem? (i := 38) rfl)) (hw _ (List.mem_of_getElem? (i := 35) rfl)) (hw _ (List.mem_of_getElem? (i := 39) rfl)) (by decide) (argsL := [(.ref x), (.int (0 : Int32)), (.int (1 : Int32)), (.int i)]) (st := []) (c_bs0_1 l Z a0 hw x ck i  h0 hi A) (lenOf pd_4 rfl) (hb hby d_jdk_65_method_57_5) (pc' := 8) rfl rfl (by decide) (W := 0) (Nat.le_of_eq rfl) (by decide) (by decide) (by decide) ?_
  intro T1 v1 L1 X1 hQ1
  obtain ⟨r, rfl, eq1, rfl, hr⟩ := hQ1
  rw [List.append_nil] at X1
  exact gRetI X1 hx hlk hret (hb hby d_jdk_65_method_57_8) (by decide) (by decide) (⟨_, rfl, eq1, rfl, hr⟩)
theorem ef_c_bs0_2 (m : MethodId) (x : Addr) (i : Int32) : entryFrame m #[(.ref x), (.int (0 : Int32)), (.int (2 : Int32)), (.int i)] 8 = mkF m 0 #[.val (.ref x), .val (.int (0 : Int32)), .val (.int (2 : Int32)), .val (.int i), .unset, .unset, .unset, .unset] [] := by first | (simp [entryFrame, mkF, argsToLocals, Value.category]; done) | rfl
set_option maxRecDepth 65536 in
set_option maxHeartbeats 40000000 in
theorem c_bs0_2 (l : Launch) (Z : State) (a0 : Array Value) (hw : ∀ d ∈ tables_1, d.before a0 Z = true) (x : Addr) (ck : ClassId) (i : Int32) (be1 : Int32) (h0 : Heap) (hi : 0 ≤ i.toInt) (hbe1 : 0 < be1.toInt) (A : Arv Z h0 x ck .int 2 [(.int (0 : Int32)), (.int be1)] (.int 0)) :
    Ctr l Z (⟨"java/util/Arrays", "binarySearch0", "([IIII)I"⟩ : MethodName) jdk_65_method_59_code 8 (some .int) [] ({ frames := 0, cells := 0, slots := 0, locals := 0 } : Room) #[(.ref x), (.int (0 : Int32)), (.int (2 : Int32)), (.int i)] h0 (fun v h L => ∃ r : Int32, v = some (.int r) ∧ h = h0 ∧ L = [] ∧ ((r.toInt = 0 ∨ r.toInt = -2) ∧ i.toInt < be1.toInt ∨ (r.toInt = 1 ∨ r.toInt = -3) ∧ be1.toInt ≤ i.toInt)) := by
  refine Ctr.of (plainFor_of_name pn_3) ?_
  intro p e s m below meth c s₁ hx hby hml hret hown hnm hZ hlk X0 e0
  refine Goes.cast (ef_c_bs0_2 m x i) ?_
  refine gLoadIN X0 hx (hb hby d_jdk_65_method_59_0) (pc' := 1) rfl rfl ?_
  refine gStoreI X0 hx (hb hby d_jdk_65_method_59_1) (l' := #[.val (.ref x), .val (.int (0 : Int32)), .val (.int (2 : Int32)), .val (.int i), .val (.int (0 : Int32)), .unset, .unset, .unset]) (pc' := 3) rfl rfl ?_
  refine gLoadIN X0 hx (hb hby d_jdk_65_method_59_3) (pc' := 4) rfl rfl ?_
  refine gIconst X0 hx (v := (1 : Int32)) (hb hby d_jdk_65_method_59_4) (pc' := 5) rfl rfl ?_
  refine gIsub X0 hx (hb hby d_jdk_65_method_59_5) (pc' := 6) rfl ?_
  show Goes p e below _ s₁ (mkF m 6 #[.val (.ref x), .val (.int (0 : Int32)), .val (.int (2 : Int32)), .val (.int i), .val (.int (0 : Int32)), .unset, .unset, .unset] [(.int (1 : Int32))])
  refine gStoreI X0 hx (hb hby d_jdk_65_method_59_6) (l' := #[.val (.ref x), .val (.int (0 : Int32)), .val (.int (2 : Int32)), .val (.int i), .val (.int (0 : Int32)), .val (.int (1 : Int32)), .unset, .unset]) (pc' := 8) rfl rfl ?_
  refine gLoadI X0 hx (hb hby d_jdk_65_method_59_8) (pc' := 10) rfl rfl ?_
  refine gLoadI X0 hx (hb hby d_jdk_65_method_59_10) (pc' := 12) rfl rfl ?_
  refine gIcmpGt X0 hx (hb hby d_jdk_65_method_59_12) (pc' := 66) (by decide) (by decide) (pn := 15) rfl (fun (c12 : (1 : Int) < (0 : Int)) => ?_) (fun (c12 : (0 : Int) ≤ (1 : Int)) => ?_)
  · exact absurd c12 (by decide)
  · refine gLoadI X0 hx (hb hby d_jdk_65_method_59_15) (pc' := 17) rfl rfl ?_
    refine gLoadI X0 hx (hb hby d_jdk_65_method_59_17) (pc' := 19) rfl rfl ?_
    refine gIadd X0 hx (hb hby d_jdk_65_method_59_19) (pc' := 20) rfl ?_
    show Goes p e below _ s₁ (mkF m 20 #[.val (.ref x), .val (.int (0 : Int32)), .val (.int (2 : Int32)), .val (.int i), .val (.int (0 : Int32)), .val (.int (1 : Int32)), .unset, .unset] [(.int (1 : Int32))])
    refine gIconst X0 hx (v := (1 : Int32)) (hb hby d_jdk_65_method_59_20) (pc' := 21) rfl rfl ?_
    refine gIushr X0 hx (hb hby d_jdk_65_method_59_21) (pc' := 22) rfl ?_
    show Goes p e below _ s₁ (mkF m 22 #[.val (.ref x), .val (.int (0 : Int32)), .val (.int (2 : Int32)), .val (.int i), .val (.int (0 : Int32)), .val (.int (1 : Int32)), .unset, .unset] [(.int (0 : Int32))])
    refine gStoreI X0 hx (hb hby d_jdk_65_method_59_22) (l' := #[.val (.ref x), .val (.int (0 : Int32)), .val (.int (2 : Int32)), .val (.int i), .val (.int (0 : Int32)), .val (.int (1 : Int32)), .val (.int (0 : Int32)), .unset]) (pc' := 24) rfl rfl ?_
    refine gLoadAN X0 hx (hb hby d_jdk_65_method_59_24) (pc' := 25) rfl rfl rfl ?_
    refine gLoadI X0 hx (hb hby d_jdk_65_method_59_25) (pc' := 27) rfl rfl ?_
    refine gIaload X0 hx hZ e0 A (j := (0 : Int32)) (v := (.int (0 : Int32))) (by decide) (by decide) rfl (hb hby d_jdk_65_method_59_27) (pc' := 28) rfl ?_
    refine gStoreI X0 hx (hb hby d_jdk_65_method_59_28) (l' := #[.val (.ref x), .val (.int (0 : Int32)), .val (.int (2 : Int32)), .val (.int i), .val (.int (0 : Int32)), .val (.int (1 : Int32)), .val (.int (0 : Int32)), .val (.int (0 : Int32))]) (pc' := 30) rfl rfl ?_
    refine gLoadI X0 hx (hb hby d_jdk_65_method_59_30) (pc' := 32) rfl rfl ?_
    refine gLoadIN X0 hx (hb hby d_jdk_65_method_59_32) (pc' := 33) rfl rfl ?_
    refine gIcmpGe X0 hx (hb hby d_jdk_65_method_59_33) (pc' := 45) (by decide) (by decide) (pn := 36) rfl (fun (c33 : i.toInt ≤ (0 : Int)) => ?_) (fun (c33 : (0 : Int) < i.toInt) => ?_)
    · refine gLoadI X0 hx (hb hby d_jdk_65_method_59_45) (pc' := 47) rfl rfl ?_
      refine gLoadIN X0 hx (hb hby d_jdk_65_method_59_47) (pc' := 48) rfl rfl ?_
      refine gIcmpLe X0 hx (hb hby d_jdk_65_method_59_48) (pc' := 60) (by decide) (by decide) (pn := 51) rfl (fun (c48 : (0 : Int) ≤ i.toInt) => ?_) (fun (c48 : i.toInt < (0 : Int)) => ?_)
      · refine gLoadI X0 hx (hb hby d_jdk_65_method_59_60) (pc' := 62) rfl rfl ?_
        exact gRetI X0 hx hlk hret (hb hby d_jdk_65_method_59_62) (by decide) (by decide) (⟨_, rfl, e0, rfl, by have hr : (0 : Int32).toInt = 0 := (by decide); omega⟩)
      · refine gLoadI X0 hx (hb hby d_jdk_65_method_59_51) (pc' := 53) rfl rfl ?_
        refine gIconst X0 hx (v := (1 : Int32)) (hb hby d_jdk_65_method_59_53) (pc' := 54) rfl rfl ?_
        refine gIsub X0 hx (hb hby d_jdk_65_method_59_54) (pc' := 55) rfl ?_
        show Goes p e below _ s₁ (mkF m 55 #[.val (.ref x), .val (.int (0 : Int32)), .val (.int (2 : Int32)), .val (.int i), .val (.int (0 : Int32)), .val (.int (1 : Int32)), .val (.int (0 : Int32)), .val (.int (0 : Int32))] [(.int (-1 : Int32))])
        refine gStoreI X0 hx (hb hby d_jdk_65_method_59_55) (l' := #[.val (.ref x), .val (.int (0 : Int32)), .val (.int (2 : Int32)), .val (.int i), .val (.int (0 : Int32)), .val (.int (-1 : Int32)), .val (.int (0 : Int32)), .val (.int (0 : Int32))]) (pc' := 57) rfl rfl ?_
        refine gGoto X0 hx (hb hby d_jdk_65_method_59_57) (pc' := 63) (by decide) (by decide) ?_
        refine gGoto X0 hx (hb hby d_jdk_65_method_59_63) (pc' := 8) (by decide) (by decide) ?_
        refine gLoadI X0 hx (hb hby d_jdk_65_method_59_8) (pc' := 10) rfl rfl ?_
        refine gLoadI X0 hx (hb hby d_jdk_65_method_59_10) (pc' := 12) rfl rfl ?_
        refine gIcmpGt X0 hx (hb hby d_jdk_65_method_59_12) (pc' := 66) (by decide) (by decide) (pn := 15) rfl (fun (c12' : (-1 : Int) < (0 : Int)) => ?_) (fun (c12' : (0 : Int) ≤ (-1 : Int)) => ?_)
        · refine gLoadI X0 hx (hb hby d_jdk_65_method_59_66) (pc' := 68) rfl rfl ?_
          refine gIconst X0 hx (v := (1 : Int32)) (hb hby d_jdk_65_method_59_68) (pc' := 69) rfl rfl ?_
          refine gIadd X0 hx (hb hby d_jdk_65_method_59_69) (pc' := 70) rfl ?_
          show Goes p e below _ s₁ (mkF m 70 #[.val (.ref x), .val (.int (0 : Int32)), .val (.int (2 : Int32)), .val (.int i), .val (.int (0 : Int32)), .val (.int (-1 : Int32)), .val (.int (0 : Int32)), .val (.int (0 : Int32))] [(.int (1 : Int32))])
          refine gIneg X0 hx (hb hby d_jdk_65_method_59_70) (pc' := 71) rfl ?_
          show Goes p e below _ s₁ (mkF m 71 #[.val (.ref x), .val (.int (0 : Int32)), .val (.int (2 : Int32)), .val (.int i), .val (.int (0 : Int32)), .val (.int (-1 : Int32)), .val (.int (0 : Int32)), .val (.int (0 : Int32))] [(.int (-1 : Int32))])
          exact gRetI X0 hx hlk hret (hb hby d_jdk_65_method_59_71) (by decide) (by decide) (⟨_, rfl, e0, rfl, by have hr : (-1 : Int32).toInt = -1 := (by decide); omega⟩)
        · exact absurd c12' (by decide)
    · refine gLoadI X0 hx (hb hby d_jdk_65_method_59_36) (pc' := 38) rfl rfl ?_
      refine gIconst X0 hx (v := (1 : Int32)) (hb hby d_jdk_65_method_59_38) (pc' := 39) rfl rfl ?_
      refine gIadd X0 hx (hb hby d_jdk_65_method_59_39) (pc' := 40) rfl ?_
      show Goes p e below _ s₁ (mkF m 40 #[.val (.ref x), .val (.int (0 : Int32)), .val (.int (2 : Int32)), .val (.int i), .val (.int (0 : Int32)), .val (.int (1 : Int32)), .val (.int (0 : Int32)), .val (.int (0 : Int32))] [(.int (1 : Int32))])
      refine gStoreI X0 hx (hb hby d_jdk_65_method_59_40) (l' := #[.val (.ref x), .val (.int (0 : Int32)), .val (.int (2 : Int32)), .val (.int i), .val (.int (1 : Int32)), .val (.int (1 : Int32)), .val (.int (0 : Int32)), .val (.int (0 : Int32))]) (pc' := 42) rfl rfl ?_
      refine gGoto X0 hx (hb hby d_jdk_65_method_59_42) (pc' := 63) (by decide) (by decide) ?_
      refine gGoto X0 hx (hb hby d_jdk_65_method_59_63) (pc' := 8) (by decide) (by decide) ?_
      refine gLoadI X0 hx (hb hby d_jdk_65_method_59_8) (pc' := 10) rfl rfl ?_
      refine gLoadI X0 hx (hb hby d_jdk_65_method_59_10) (pc' := 12) rfl rfl ?_
      refine gIcmpGt X0 hx (hb hby d_jdk_65_method_59_12) (pc' := 66) (by decide) (by decide) (pn := 15) rfl (fun (c12' : (1 : Int) < (1 : Int)) => ?_) (fun (c12' : (1 : Int) ≤ (1 : Int)) => ?_)
      · exact absurd c12' (by decide)
      · refine gLoadI X0 hx (hb hby d_jdk_65_method_59_15) (pc' := 17) rfl rfl ?_
        refine gLoadI X0 hx (hb hby d_jdk_65_method_59_17) (pc' := 19) rfl rfl ?_
        refine gIadd X0 hx (hb hby d_jdk_65_method_59_19) (pc' := 20) rfl ?_
        show Goes p e below _ s₁ (mkF m 20 #[.val (.ref x), .val (.int (0 : Int32)), .val (.int (2 : Int32)), .val (.int i), .val (.int (1 : Int32)), .val (.int (1 : Int32)), .val (.int (0 : Int32)), .val (.int (0 : Int32))] [(.int (2 : Int32))])
        refine gIconst X0 hx (v := (1 : Int32)) (hb hby d_jdk_65_method_59_20) (pc' := 21) rfl rfl ?_
        refine gIushr X0 hx (hb hby d_jdk_65_method_59_21) (pc' := 22) rfl ?_
        show Goes p e below _ s₁ (mkF m 22 #[.val (.ref x), .val (.int (0 : Int32)), .val (.int (2 : Int32)), .val (.int i), .val (.int (1 : Int32)), .val (.int (1 : Int32)), .val (.int (0 : Int32)), .val (.int (0 : Int32))] [(.int (1 : Int32))])
        refine gStoreI X0 hx (hb hby d_jdk_65_method_59_22) (l' := #[.val (.ref x), .val (.int (0 : Int32)), .val (.int (2 : Int32)), .val (.int i), .val (.int (1 : Int32)), .val (.int (1 : Int32)), .val (.int (1 : Int32)), .val (.int (0 : Int32))]) (pc' := 24) rfl rfl ?_
        refine gLoadAN X0 hx (hb hby d_jdk_65_method_59_24) (pc' := 25) rfl rfl rfl ?_
        refine gLoadI X0 hx (hb hby d_jdk_65_method_59_25) (pc' := 27) rfl rfl ?_
        refine gIaload X0 hx hZ e0 A (j := (1 : Int32)) (v := (.int be1)) (by decide) (by decide) rfl (hb hby d_jdk_65_method_59_27) (pc' := 28) rfl ?_
        refine gStoreI X0 hx (hb hby d_jdk_65_method_59_28) (l' := #[.val (.ref x), .val (.int (0 : Int32)), .val (.int (2 : Int32)), .val (.int i), .val (.int (1 : Int32)), .val (.int (1 : Int32)), .val (.int (1 : Int32)), .val (.int be1)]) (pc' := 30) rfl rfl ?_
        refine gLoadI X0 hx (hb hby d_jdk_65_method_59_30) (pc' := 32) rfl rfl ?_
        refine gLoadIN X0 hx (hb hby d_jdk_65_method_59_32) (pc' := 33) rfl rfl ?_
        refine gIcmpGe X0 hx (hb hby d_jdk_65_method_59_33) (pc' := 45) (by decide) (by decide) (pn := 36) rfl (fun (c33' : i.toInt ≤ be1.toInt) => ?_) (fun (c33' : be1.toInt < i.toInt) => ?_)
        · refine gLoadI X0 hx (hb hby d_jdk_65_method_59_45) (pc' := 47) rfl rfl ?_
          refine gLoadIN X0 hx (hb hby d_jdk_65_method_59_47) (pc' := 48) rfl rfl ?_
          refine gIcmpLe X0 hx (hb hby d_jdk_65_method_59_48) (pc' := 60) (by decide) (by decide) (pn := 51) rfl (fun (c48 : be1.toInt ≤ i.toInt) => ?_) (fun (c48 : i.toInt < be1.toInt) => ?_)
          · refine gLoadI X0 hx (hb hby d_jdk_65_method_59_60) (pc' := 62) rfl rfl ?_
            exact gRetI X0 hx hlk hret (hb hby d_jdk_65_method_59_62) (by decide) (by decide) (⟨_, rfl, e0, rfl, by have hr : (1 : Int32).toInt = 1 := (by decide); omega⟩)
          · refine gLoadI X0 hx (hb hby d_jdk_65_method_59_51) (pc' := 53) rfl rfl ?_
            refine gIconst X0 hx (v := (1 : Int32)) (hb hby d_jdk_65_method_59_53) (pc' := 54) rfl rfl ?_
            refine gIsub X0 hx (hb hby d_jdk_65_method_59_54) (pc' := 55) rfl ?_
            show Goes p e below _ s₁ (mkF m 55 #[.val (.ref x), .val (.int (0 : Int32)), .val (.int (2 : Int32)), .val (.int i), .val (.int (1 : Int32)), .val (.int (1 : Int32)), .val (.int (1 : Int32)), .val (.int be1)] [(.int (0 : Int32))])
            refine gStoreI X0 hx (hb hby d_jdk_65_method_59_55) (l' := #[.val (.ref x), .val (.int (0 : Int32)), .val (.int (2 : Int32)), .val (.int i), .val (.int (1 : Int32)), .val (.int (0 : Int32)), .val (.int (1 : Int32)), .val (.int be1)]) (pc' := 57) rfl rfl ?_
            refine gGoto X0 hx (hb hby d_jdk_65_method_59_57) (pc' := 63) (by decide) (by decide) ?_
            refine gGoto X0 hx (hb hby d_jdk_65_method_59_63) (pc' := 8) (by decide) (by decide) ?_
            refine gLoadI X0 hx (hb hby d_jdk_65_method_59_8) (pc' := 10) rfl rfl ?_
            refine gLoadI X0 hx (hb hby d_jdk_65_method_59_10) (pc' := 12) rfl rfl ?_
            refine gIcmpGt X0 hx (hb hby d_jdk_65_method_59_12) (pc' := 66) (by decide) (by decide) (pn := 15) rfl (fun (c12'' : (0 : Int) < (1 : Int)) => ?_) (fun (c12'' : (1 : Int) ≤ (0 : Int)) => ?_)
            · refine gLoadI X0 hx (hb hby d_jdk_65_method_59_66) (pc' := 68) rfl rfl ?_
              refine gIconst X0 hx (v := (1 : Int32)) (hb hby d_jdk_65_method_59_68) (pc' := 69) rfl rfl ?_
              refine gIadd X0 hx (hb hby d_jdk_65_method_59_69) (pc' := 70) rfl ?_
              show Goes p e below _ s₁ (mkF m 70 #[.val (.ref x), .val (.int (0 : Int32)), .val (.int (2 : Int32)), .val (.int i), .val (.int (1 : Int32)), .val (.int (0 : Int32)), .val (.int (1 : Int32)), .val (.int be1)] [(.int (2 : Int32))])
              refine gIneg X0 hx (hb hby d_jdk_65_method_59_70) (pc' := 71) rfl ?_
              show Goes p e below _ s₁ (mkF m 71 #[.val (.ref x), .val (.int (0 : Int32)), .val (.int (2 : Int32)), .val (.int i), .val (.int (1 : Int32)), .val (.int (0 : Int32)), .val (.int (1 : Int32)), .val (.int be1)] [(.int (-2 : Int32))])
              exact gRetI X0 hx hlk hret (hb hby d_jdk_65_method_59_71) (by decide) (by decide) (⟨_, rfl, e0, rfl, by have hr : (-2 : Int32).toInt = -2 := (by decide); omega⟩)
            · exact absurd c12'' (by decide)
        · refine gLoadI X0 hx (hb hby d_jdk_65_method_59_36) (pc' := 38) rfl rfl ?_
          refine gIconst X0 hx (v := (1 : Int32)) (hb hby d_jdk_65_method_59_38) (pc' := 39) rfl rfl ?_
          refine gIadd X0 hx (hb hby d_jdk_65_method_59_39) (pc' := 40) rfl ?_
          show Goes p e below _ s₁ (mkF m 40 #[.val (.ref x), .val (.int (0 : Int32)), .val (.int (2 : Int32)), .val (.int i), .val (.int (1 : Int32)), .val (.int (1 : Int32)), .val (.int (1 : Int32)), .val (.int be1)] [(.int (2 : Int32))])
          refine gStoreI X0 hx (hb hby d_jdk_65_method_59_40) (l' := #[.val (.ref x), .val (.int (0 : Int32)), .val (.int (2 : Int32)), .val (.int i), .val (.int (2 : Int32)), .val (.int (1 : Int32)), .val (.int (1 : Int32)), .val (.int be1)]) (pc' := 42) rfl rfl ?_
          refine gGoto X0 hx (hb hby d_jdk_65_method_59_42) (pc' := 63) (by decide) (by decide) ?_
          refine gGoto X0 hx (hb hby d_jdk_65_method_59_63) (pc' := 8) (by decide) (by decide) ?_
          refine gLoadI X0 hx (hb hby d_jdk_65_method_59_8) (pc' := 10) rfl rfl ?_
          refine gLoadI X0 hx (hb hby d_jdk_65_method_59_10) (pc' := 12) rfl rfl ?_
          refine gIcmpGt X0 hx (hb hby d_jdk_65_method_59_12) (pc' := 66) (by decide) (by decide) (pn := 15) rfl (fun (c12'' : (1 : Int) < (2 : Int)) => ?_) (fun (c12'' : (2 : Int) ≤ (1 : Int)) => ?_)
          · refine gLoadI X0 hx (hb hby d_jdk_65_method_59_66) (pc' := 68) rfl rfl ?_
            refine gIconst X0 hx (v := (1 : Int32)) (hb hby d_jdk_65_method_59_68) (pc' := 69) rfl rfl ?_
            refine gIadd X0 hx (hb hby d_jdk_65_method_59_69) (pc' := 70) rfl ?_
            show Goes p e below _ s₁ (mkF m 70 #[.val (.ref x), .val (.int (0 : Int32)), .val (.int (2 : Int32)), .val (.int i), .val (.int (2 : Int32)), .val (.int (1 : Int32)), .val (.int (1 : Int32)), .val (.int be1)] [(.int (3 : Int32))])
            refine gIneg X0 hx (hb hby d_jdk_65_method_59_70) (pc' := 71) rfl ?_
            show Goes p e below _ s₁ (mkF m 71 #[.val (.ref x), .val (.int (0 : Int32)), .val (.int (2 : Int32)), .val (.int i), .val (.int (2 : Int32)), .val (.int (1 : Int32)), .val (.int (1 : Int32)), .val (.int be1)] [(.int (-3 : Int32))])
            exact gRetI X0 hx hlk hret (hb hby d_jdk_65_method_59_71) (by decide) (by decide) (⟨_, rfl, e0, rfl, by have hr : (-3 : Int32).toInt = -3 := (by decide); omega⟩)
          · exact absurd c12'' (by decide)
theorem ef_c_bs_2 (m : MethodId) (x : Addr) (i : Int32) : entryFrame m #[(.ref x), (.int i)] 2 = mkF m 0 #[.val (.ref x), .val (.int i)] [] := by first | (simp [entryFrame, mkF, argsToLocals, Value.category]; done) | rfl
set_option maxRecDepth 65536 in
set_option maxHeartbeats 40000000 in
theorem c_bs_2 (l : Launch) (Z : State) (a0 : Array Value) (hw : ∀ d ∈ tables_1, d.before a0 Z = true) (x : Addr) (ck : ClassId) (i : Int32) (be1 : Int32) (h0 : Heap) (hi : 0 ≤ i.toInt) (hbe1 : 0 < be1.toInt) (A : Arv Z h0 x ck .int 2 [(.int (0 : Int32)), (.int be1)] (.int 0)) :
    Ctr l Z (⟨"java/util/Arrays", "binarySearch", "([II)I"⟩ : MethodName) jdk_65_method_57_code 2 (some .int) [] ({ frames := 1, cells := 0, slots := 0, locals := 19 } : Room) #[(.ref x), (.int i)] h0 (fun v h L => ∃ r : Int32, v = some (.int r) ∧ h = h0 ∧ L = [] ∧ ((r.toInt = 0 ∨ r.toInt = -2) ∧ i.toInt < be1.toInt ∨ (r.toInt = 1 ∨ r.toInt = -3) ∧ be1.toInt ≤ i.toInt)) := by
  refine Ctr.of (plainFor_of_name pn_3) ?_
  intro p e s m below meth c s₁ hx hby hml hret hown hnm hZ hlk X0 e0
  refine Goes.cast (ef_c_bs_2 m x i) ?_
  refine gLoadAN X0 hx (hb hby d_jdk_65_method_57_0) (pc' := 1) rfl rfl rfl ?_
  refine gIconst X0 hx (v := (0 : Int32)) (hb hby d_jdk_65_method_57_1) (pc' := 2) rfl rfl ?_
  refine gLoadAN X0 hx (hb hby d_jdk_65_method_57_2) (pc' := 3) rfl rfl rfl ?_
  refine gArrLen X0 hx hZ e0 A (hb hby d_jdk_65_method_57_3) (pc' := 4) rfl ?_
  refine gLoadIN X0 hx (hb hby d_jdk_65_method_57_4) (pc' := 5) rfl rfl ?_
  refine gCallS X0 hx hZ (y := (⟨"java/util/Arrays", "binarySearch0", "([IIII)I"⟩ : MethodName)) hown e0 (by rw [hml]; rfl) (hw _ (List.mem_of_getElem? (i := 37) rfl)) (hw _ (List.mem_of_getElem? (i := 38) rfl)) (hw _ (List.mem_of_getElem? (i := 35) rfl)) (hw _ (List.mem_of_getElem? (i := 39) rfl)) (by decide) (argsL := [(.ref x), (.int (0 : Int32)), (.int (2 : Int32)), (.int i)]) (st := []) (c_bs0_2 l Z a0 hw x ck i be1 h0 hi hbe1 A) (lenOf pd_4 rfl) (hb hby d_jdk_65_method_57_5) (pc' := 8) rfl rfl (by decide) (W := 0) (Nat.le_of_eq rfl) (by decide) (by decide) (by decide) ?_
  intro T1 v1 L1 X1 hQ1
  obtain ⟨r, rfl, eq1, rfl, hr⟩ := hQ1
  rw [List.append_nil] at X1
  exact gRetI X1 hx hlk hret (hb hby d_jdk_65_method_57_8) (by decide) (by decide) (⟨_, rfl, eq1, rfl, hr⟩)
theorem ef_c_bs0_3 (m : MethodId) (x : Addr) (i : Int32) : entryFrame m #[(.ref x), (.int (0 : Int32)), (.int (3 : Int32)), (.int i)] 8 = mkF m 0 #[.val (.ref x), .val (.int (0 : Int32)), .val (.int (3 : Int32)), .val (.int i), .unset, .unset, .unset, .unset] [] := by first | (simp [entryFrame, mkF, argsToLocals, Value.category]; done) | rfl
set_option maxRecDepth 65536 in
set_option maxHeartbeats 40000000 in
theorem c_bs0_3 (l : Launch) (Z : State) (a0 : Array Value) (hw : ∀ d ∈ tables_1, d.before a0 Z = true) (x : Addr) (ck : ClassId) (i : Int32) (be1 be2 : Int32) (h0 : Heap) (hi : 0 ≤ i.toInt) (hbe1 : 0 < be1.toInt) (hbe2 : be1.toInt < be2.toInt) (A : Arv Z h0 x ck .int 3 [(.int (0 : Int32)), (.int be1), (.int be2)] (.int 0)) :
    Ctr l Z (⟨"java/util/Arrays", "binarySearch0", "([IIII)I"⟩ : MethodName) jdk_65_method_59_code 8 (some .int) [] ({ frames := 0, cells := 0, slots := 0, locals := 0 } : Room) #[(.ref x), (.int (0 : Int32)), (.int (3 : Int32)), (.int i)] h0 (fun v h L => ∃ r : Int32, v = some (.int r) ∧ h = h0 ∧ L = [] ∧ ((r.toInt = 0 ∨ r.toInt = -2) ∧ i.toInt < be1.toInt ∨ (r.toInt = 1 ∨ r.toInt = -3) ∧ be1.toInt ≤ i.toInt ∧ i.toInt < be2.toInt ∨ (r.toInt = 2 ∨ r.toInt = -4) ∧ be2.toInt ≤ i.toInt)) := by
  refine Ctr.of (plainFor_of_name pn_3) ?_
  intro p e s m below meth c s₁ hx hby hml hret hown hnm hZ hlk X0 e0
  refine Goes.cast (ef_c_bs0_3 m x i) ?_
  refine gLoadIN X0 hx (hb hby d_jdk_65_method_59_0) (pc' := 1) rfl rfl ?_
  refine gStoreI X0 hx (hb hby d_jdk_65_method_59_1) (l' := #[.val (.ref x), .val (.int (0 : Int32)), .val (.int (3 : Int32)), .val (.int i), .val (.int (0 : Int32)), .unset, .unset, .unset]) (pc' := 3) rfl rfl ?_
  refine gLoadIN X0 hx (hb hby d_jdk_65_method_59_3) (pc' := 4) rfl rfl ?_
  refine gIconst X0 hx (v := (1 : Int32)) (hb hby d_jdk_65_method_59_4) (pc' := 5) rfl rfl ?_
  refine gIsub X0 hx (hb hby d_jdk_65_method_59_5) (pc' := 6) rfl ?_
  show Goes p e below _ s₁ (mkF m 6 #[.val (.ref x), .val (.int (0 : Int32)), .val (.int (3 : Int32)), .val (.int i), .val (.int (0 : Int32)), .unset, .unset, .unset] [(.int (2 : Int32))])
  refine gStoreI X0 hx (hb hby d_jdk_65_method_59_6) (l' := #[.val (.ref x), .val (.int (0 : Int32)), .val (.int (3 : Int32)), .val (.int i), .val (.int (0 : Int32)), .val (.int (2 : Int32)), .unset, .unset]) (pc' := 8) rfl rfl ?_
  refine gLoadI X0 hx (hb hby d_jdk_65_method_59_8) (pc' := 10) rfl rfl ?_
  refine gLoadI X0 hx (hb hby d_jdk_65_method_59_10) (pc' := 12) rfl rfl ?_
  refine gIcmpGt X0 hx (hb hby d_jdk_65_method_59_12) (pc' := 66) (by decide) (by decide) (pn := 15) rfl (fun (c12 : (2 : Int) < (0 : Int)) => ?_) (fun (c12 : (0 : Int) ≤ (2 : Int)) => ?_)
  · exact absurd c12 (by decide)
  · refine gLoadI X0 hx (hb hby d_jdk_65_method_59_15) (pc' := 17) rfl rfl ?_
    refine gLoadI X0 hx (hb hby d_jdk_65_method_59_17) (pc' := 19) rfl rfl ?_
    refine gIadd X0 hx (hb hby d_jdk_65_method_59_19) (pc' := 20) rfl ?_
    show Goes p e below _ s₁ (mkF m 20 #[.val (.ref x), .val (.int (0 : Int32)), .val (.int (3 : Int32)), .val (.int i), .val (.int (0 : Int32)), .val (.int (2 : Int32)), .unset, .unset] [(.int (2 : Int32))])
    refine gIconst X0 hx (v := (1 : Int32)) (hb hby d_jdk_65_method_59_20) (pc' := 21) rfl rfl ?_
    refine gIushr X0 hx (hb hby d_jdk_65_method_59_21) (pc' := 22) rfl ?_
    show Goes p e below _ s₁ (mkF m 22 #[.val (.ref x), .val (.int (0 : Int32)), .val (.int (3 : Int32)), .val (.int i), .val (.int (0 : Int32)), .val (.int (2 : Int32)), .unset, .unset] [(.int (1 : Int32))])
    refine gStoreI X0 hx (hb hby d_jdk_65_method_59_22) (l' := #[.val (.ref x), .val (.int (0 : Int32)), .val (.int (3 : Int32)), .val (.int i), .val (.int (0 : Int32)), .val (.int (2 : Int32)), .val (.int (1 : Int32)), .unset]) (pc' := 24) rfl rfl ?_
    refine gLoadAN X0 hx (hb hby d_jdk_65_method_59_24) (pc' := 25) rfl rfl rfl ?_
    refine gLoadI X0 hx (hb hby d_jdk_65_method_59_25) (pc' := 27) rfl rfl ?_
    refine gIaload X0 hx hZ e0 A (j := (1 : Int32)) (v := (.int be1)) (by decide) (by decide) rfl (hb hby d_jdk_65_method_59_27) (pc' := 28) rfl ?_
    refine gStoreI X0 hx (hb hby d_jdk_65_method_59_28) (l' := #[.val (.ref x), .val (.int (0 : Int32)), .val (.int (3 : Int32)), .val (.int i), .val (.int (0 : Int32)), .val (.int (2 : Int32)), .val (.int (1 : Int32)), .val (.int be1)]) (pc' := 30) rfl rfl ?_
    refine gLoadI X0 hx (hb hby d_jdk_65_method_59_30) (pc' := 32) rfl rfl ?_
    refine gLoadIN X0 hx (hb hby d_jdk_65_method_59_32) (pc' := 33) rfl rfl ?_
    refine gIcmpGe X0 hx (hb hby d_jdk_65_method_59_33) (pc' := 45) (by decide) (by decide) (pn := 36) rfl (fun (c33 : i.toInt ≤ be1.toInt) => ?_) (fun (c33 : be1.toInt < i.toInt) => ?_)
    · refine gLoadI X0 hx (hb hby d_jdk_65_method_59_45) (pc' := 47) rfl rfl ?_
      refine gLoadIN X0 hx (hb hby d_jdk_65_method_59_47) (pc' := 48) rfl rfl ?_
      refine gIcmpLe X0 hx (hb hby d_jdk_65_method_59_48) (pc' := 60) (by decide) (by decide) (pn := 51) rfl (fun (c48 : be1.toInt ≤ i.toInt) => ?_) (fun (c48 : i.toInt < be1.toInt) => ?_)
      · refine gLoadI X0 hx (hb hby d_jdk_65_method_59_60) (pc' := 62) rfl rfl ?_
        exact gRetI X0 hx hlk hret (hb hby d_jdk_65_method_59_62) (by decide) (by decide) (⟨_, rfl, e0, rfl, by have hr : (1 : Int32).toInt = 1 := (by decide); omega⟩)
      · refine gLoadI X0 hx (hb hby d_jdk_65_method_59_51) (pc' := 53) rfl rfl ?_
        refine gIconst X0 hx (v := (1 : Int32)) (hb hby d_jdk_65_method_59_53) (pc' := 54) rfl rfl ?_
        refine gIsub X0 hx (hb hby d_jdk_65_method_59_54) (pc' := 55) rfl ?_
        show Goes p e below _ s₁ (mkF m 55 #[.val (.ref x), .val (.int (0 : Int32)), .val (.int (3 : Int32)), .val (.int i), .val (.int (0 : Int32)), .val (.int (2 : Int32)), .val (.int (1 : Int32)), .val (.int be1)] [(.int (0 : Int32))])
        refine gStoreI X0 hx (hb hby d_jdk_65_method_59_55) (l' := #[.val (.ref x), .val (.int (0 : Int32)), .val (.int (3 : Int32)), .val (.int i), .val (.int (0 : Int32)), .val (.int (0 : Int32)), .val (.int (1 : Int32)), .val (.int be1)]) (pc' := 57) rfl rfl ?_
        refine gGoto X0 hx (hb hby d_jdk_65_method_59_57) (pc' := 63) (by decide) (by decide) ?_
        refine gGoto X0 hx (hb hby d_jdk_65_method_59_63) (pc' := 8) (by decide) (by decide) ?_
        refine gLoadI X0 hx (hb hby d_jdk_65_method_59_8) (pc' := 10) rfl rfl ?_
        refine gLoadI X0 hx (hb hby d_jdk_65_method_59_10) (pc' := 12) rfl rfl ?_
        refine gIcmpGt X0 hx (hb hby d_jdk_65_method_59_12) (pc' := 66) (by decide) (by decide) (pn := 15) rfl (fun (c12' : (0 : Int) < (0 : Int)) => ?_) (fun (c12' : (0 : Int) ≤ (0 : Int)) => ?_)
        · exact absurd c12' (by decide)
        · refine gLoadI X0 hx (hb hby d_jdk_65_method_59_15) (pc' := 17) rfl rfl ?_
          refine gLoadI X0 hx (hb hby d_jdk_65_method_59_17) (pc' := 19) rfl rfl ?_
          refine gIadd X0 hx (hb hby d_jdk_65_method_59_19) (pc' := 20) rfl ?_
          show Goes p e below _ s₁ (mkF m 20 #[.val (.ref x), .val (.int (0 : Int32)), .val (.int (3 : Int32)), .val (.int i), .val (.int (0 : Int32)), .val (.int (0 : Int32)), .val (.int (1 : Int32)), .val (.int be1)] [(.int (0 : Int32))])
          refine gIconst X0 hx (v := (1 : Int32)) (hb hby d_jdk_65_method_59_20) (pc' := 21) rfl rfl ?_
          refine gIushr X0 hx (hb hby d_jdk_65_method_59_21) (pc' := 22) rfl ?_
          show Goes p e below _ s₁ (mkF m 22 #[.val (.ref x), .val (.int (0 : Int32)), .val (.int (3 : Int32)), .val (.int i), .val (.int (0 : Int32)), .val (.int (0 : Int32)), .val (.int (1 : Int32)), .val (.int be1)] [(.int (0 : Int32))])
          refine gStoreI X0 hx (hb hby d_jdk_65_method_59_22) (l' := #[.val (.ref x), .val (.int (0 : Int32)), .val (.int (3 : Int32)), .val (.int i), .val (.int (0 : Int32)), .val (.int (0 : Int32)), .val (.int (0 : Int32)), .val (.int be1)]) (pc' := 24) rfl rfl ?_
          refine gLoadAN X0 hx (hb hby d_jdk_65_method_59_24) (pc' := 25) rfl rfl rfl ?_
          refine gLoadI X0 hx (hb hby d_jdk_65_method_59_25) (pc' := 27) rfl rfl ?_
          refine gIaload X0 hx hZ e0 A (j := (0 : Int32)) (v := (.int (0 : Int32))) (by decide) (by decide) rfl (hb hby d_jdk_65_method_59_27) (pc' := 28) rfl ?_
          refine gStoreI X0 hx (hb hby d_jdk_65_method_59_28) (l' := #[.val (.ref x), .val (.int (0 : Int32)), .val (.int (3 : Int32)), .val (.int i), .val (.int (0 : Int32)), .val (.int (0 : Int32)), .val (.int (0 : Int32)), .val (.int (0 : Int32))]) (pc' := 30) rfl rfl ?_
          refine gLoadI X0 hx (hb hby d_jdk_65_method_59_30) (pc' := 32) rfl rfl ?_
          refine gLoadIN X0 hx (hb hby d_jdk_65_method_59_32) (pc' := 33) rfl rfl ?_
          refine gIcmpGe X0 hx (hb hby d_jdk_65_method_59_33) (pc' := 45) (by decide) (by decide) (pn := 36) rfl (fun (c33' : i.toInt ≤ (0 : Int)) => ?_) (fun (c33' : (0 : Int) < i.toInt) => ?_)
          · refine gLoadI X0 hx (hb hby d_jdk_65_method_59_45) (pc' := 47) rfl rfl ?_
            refine gLoadIN X0 hx (hb hby d_jdk_65_method_59_47) (pc' := 48) rfl rfl ?_
            refine gIcmpLe X0 hx (hb hby d_jdk_65_method_59_48) (pc' := 60) (by decide) (by decide) (pn := 51) rfl (fun (c48' : (0 : Int) ≤ i.toInt) => ?_) (fun (c48' : i.toInt < (0 : Int)) => ?_)
            · refine gLoadI X0 hx (hb hby d_jdk_65_method_59_60) (pc' := 62) rfl rfl ?_
              exact gRetI X0 hx hlk hret (hb hby d_jdk_65_method_59_62) (by decide) (by decide) (⟨_, rfl, e0, rfl, by have hr : (0 : Int32).toInt = 0 := (by decide); omega⟩)
            · refine gLoadI X0 hx (hb hby d_jdk_65_method_59_51) (pc' := 53) rfl rfl ?_
              refine gIconst X0 hx (v := (1 : Int32)) (hb hby d_jdk_65_method_59_53) (pc' := 54) rfl rfl ?_
              refine gIsub X0 hx (hb hby d_jdk_65_method_59_54) (pc' := 55) rfl ?_
              show Goes p e below _ s₁ (mkF m 55 #[.val (.ref x), .val (.int (0 : Int32)), .val (.int (3 : Int32)), .val (.int i), .val (.int (0 : Int32)), .val (.int (0 : Int32)), .val (.int (0 : Int32)), .val (.int (0 : Int32))] [(.int (-1 : Int32))])
              refine gStoreI X0 hx (hb hby d_jdk_65_method_59_55) (l' := #[.val (.ref x), .val (.int (0 : Int32)), .val (.int (3 : Int32)), .val (.int i), .val (.int (0 : Int32)), .val (.int (-1 : Int32)), .val (.int (0 : Int32)), .val (.int (0 : Int32))]) (pc' := 57) rfl rfl ?_
              refine gGoto X0 hx (hb hby d_jdk_65_method_59_57) (pc' := 63) (by decide) (by decide) ?_
              refine gGoto X0 hx (hb hby d_jdk_65_method_59_63) (pc' := 8) (by decide) (by decide) ?_
              refine gLoadI X0 hx (hb hby d_jdk_65_method_59_8) (pc' := 10) rfl rfl ?_
              refine gLoadI X0 hx (hb hby d_jdk_65_method_59_10) (pc' := 12) rfl rfl ?_
              refine gIcmpGt X0 hx (hb hby d_jdk_65_method_59_12) (pc' := 66) (by decide) (by decide) (pn := 15) rfl (fun (c12'' : (-1 : Int) < (0 : Int)) => ?_) (fun (c12'' : (0 : Int) ≤ (-1 : Int)) => ?_)
              · refine gLoadI X0 hx (hb hby d_jdk_65_method_59_66) (pc' := 68) rfl rfl ?_
                refine gIconst X0 hx (v := (1 : Int32)) (hb hby d_jdk_65_method_59_68) (pc' := 69) rfl rfl ?_
                refine gIadd X0 hx (hb hby d_jdk_65_method_59_69) (pc' := 70) rfl ?_
                show Goes p e below _ s₁ (mkF m 70 #[.val (.ref x), .val (.int (0 : Int32)), .val (.int (3 : Int32)), .val (.int i), .val (.int (0 : Int32)), .val (.int (-1 : Int32)), .val (.int (0 : Int32)), .val (.int (0 : Int32))] [(.int (1 : Int32))])
                refine gIneg X0 hx (hb hby d_jdk_65_method_59_70) (pc' := 71) rfl ?_
                show Goes p e below _ s₁ (mkF m 71 #[.val (.ref x), .val (.int (0 : Int32)), .val (.int (3 : Int32)), .val (.int i), .val (.int (0 : Int32)), .val (.int (-1 : Int32)), .val (.int (0 : Int32)), .val (.int (0 : Int32))] [(.int (-1 : Int32))])
                exact gRetI X0 hx hlk hret (hb hby d_jdk_65_method_59_71) (by decide) (by decide) (⟨_, rfl, e0, rfl, by have hr : (-1 : Int32).toInt = -1 := (by decide); omega⟩)
              · exact absurd c12'' (by decide)
          · refine gLoadI X0 hx (hb hby d_jdk_65_method_59_36) (pc' := 38) rfl rfl ?_
            refine gIconst X0 hx (v := (1 : Int32)) (hb hby d_jdk_65_method_59_38) (pc' := 39) rfl rfl ?_
            refine gIadd X0 hx (hb hby d_jdk_65_method_59_39) (pc' := 40) rfl ?_
            show Goes p e below _ s₁ (mkF m 40 #[.val (.ref x), .val (.int (0 : Int32)), .val (.int (3 : Int32)), .val (.int i), .val (.int (0 : Int32)), .val (.int (0 : Int32)), .val (.int (0 : Int32)), .val (.int (0 : Int32))] [(.int (1 : Int32))])
            refine gStoreI X0 hx (hb hby d_jdk_65_method_59_40) (l' := #[.val (.ref x), .val (.int (0 : Int32)), .val (.int (3 : Int32)), .val (.int i), .val (.int (1 : Int32)), .val (.int (0 : Int32)), .val (.int (0 : Int32)), .val (.int (0 : Int32))]) (pc' := 42) rfl rfl ?_
            refine gGoto X0 hx (hb hby d_jdk_65_method_59_42) (pc' := 63) (by decide) (by decide) ?_
            refine gGoto X0 hx (hb hby d_jdk_65_method_59_63) (pc' := 8) (by decide) (by decide) ?_
            refine gLoadI X0 hx (hb hby d_jdk_65_method_59_8) (pc' := 10) rfl rfl ?_
            refine gLoadI X0 hx (hb hby d_jdk_65_method_59_10) (pc' := 12) rfl rfl ?_
            refine gIcmpGt X0 hx (hb hby d_jdk_65_method_59_12) (pc' := 66) (by decide) (by decide) (pn := 15) rfl (fun (c12'' : (0 : Int) < (1 : Int)) => ?_) (fun (c12'' : (1 : Int) ≤ (0 : Int)) => ?_)
            · refine gLoadI X0 hx (hb hby d_jdk_65_method_59_66) (pc' := 68) rfl rfl ?_
              refine gIconst X0 hx (v := (1 : Int32)) (hb hby d_jdk_65_method_59_68) (pc' := 69) rfl rfl ?_
              refine gIadd X0 hx (hb hby d_jdk_65_method_59_69) (pc' := 70) rfl ?_
              show Goes p e below _ s₁ (mkF m 70 #[.val (.ref x), .val (.int (0 : Int32)), .val (.int (3 : Int32)), .val (.int i), .val (.int (1 : Int32)), .val (.int (0 : Int32)), .val (.int (0 : Int32)), .val (.int (0 : Int32))] [(.int (2 : Int32))])
              refine gIneg X0 hx (hb hby d_jdk_65_method_59_70) (pc' := 71) rfl ?_
              show Goes p e below _ s₁ (mkF m 71 #[.val (.ref x), .val (.int (0 : Int32)), .val (.int (3 : Int32)), .val (.int i), .val (.int (1 : Int32)), .val (.int (0 : Int32)), .val (.int (0 : Int32)), .val (.int (0 : Int32))] [(.int (-2 : Int32))])
              exact gRetI X0 hx hlk hret (hb hby d_jdk_65_method_59_71) (by decide) (by decide) (⟨_, rfl, e0, rfl, by have hr : (-2 : Int32).toInt = -2 := (by decide); omega⟩)
            · exact absurd c12'' (by decide)
    · refine gLoadI X0 hx (hb hby d_jdk_65_method_59_36) (pc' := 38) rfl rfl ?_
      refine gIconst X0 hx (v := (1 : Int32)) (hb hby d_jdk_65_method_59_38) (pc' := 39) rfl rfl ?_
      refine gIadd X0 hx (hb hby d_jdk_65_method_59_39) (pc' := 40) rfl ?_
      show Goes p e below _ s₁ (mkF m 40 #[.val (.ref x), .val (.int (0 : Int32)), .val (.int (3 : Int32)), .val (.int i), .val (.int (0 : Int32)), .val (.int (2 : Int32)), .val (.int (1 : Int32)), .val (.int be1)] [(.int (2 : Int32))])
      refine gStoreI X0 hx (hb hby d_jdk_65_method_59_40) (l' := #[.val (.ref x), .val (.int (0 : Int32)), .val (.int (3 : Int32)), .val (.int i), .val (.int (2 : Int32)), .val (.int (2 : Int32)), .val (.int (1 : Int32)), .val (.int be1)]) (pc' := 42) rfl rfl ?_
      refine gGoto X0 hx (hb hby d_jdk_65_method_59_42) (pc' := 63) (by decide) (by decide) ?_
      refine gGoto X0 hx (hb hby d_jdk_65_method_59_63) (pc' := 8) (by decide) (by decide) ?_
      refine gLoadI X0 hx (hb hby d_jdk_65_method_59_8) (pc' := 10) rfl rfl ?_
      refine gLoadI X0 hx (hb hby d_jdk_65_method_59_10) (pc' := 12) rfl rfl ?_
      refine gIcmpGt X0 hx (hb hby d_jdk_65_method_59_12) (pc' := 66) (by decide) (by decide) (pn := 15) rfl (fun (c12' : (2 : Int) < (2 : Int)) => ?_) (fun (c12' : (2 : Int) ≤ (2 : Int)) => ?_)
      · exact absurd c12' (by decide)
      · refine gLoadI X0 hx (hb hby d_jdk_65_method_59_15) (pc' := 17) rfl rfl ?_
        refine gLoadI X0 hx (hb hby d_jdk_65_method_59_17) (pc' := 19) rfl rfl ?_
        refine gIadd X0 hx (hb hby d_jdk_65_method_59_19) (pc' := 20) rfl ?_
        show Goes p e below _ s₁ (mkF m 20 #[.val (.ref x), .val (.int (0 : Int32)), .val (.int (3 : Int32)), .val (.int i), .val (.int (2 : Int32)), .val (.int (2 : Int32)), .val (.int (1 : Int32)), .val (.int be1)] [(.int (4 : Int32))])
        refine gIconst X0 hx (v := (1 : Int32)) (hb hby d_jdk_65_method_59_20) (pc' := 21) rfl rfl ?_
        refine gIushr X0 hx (hb hby d_jdk_65_method_59_21) (pc' := 22) rfl ?_
        show Goes p e below _ s₁ (mkF m 22 #[.val (.ref x), .val (.int (0 : Int32)), .val (.int (3 : Int32)), .val (.int i), .val (.int (2 : Int32)), .val (.int (2 : Int32)), .val (.int (1 : Int32)), .val (.int be1)] [(.int (2 : Int32))])
        refine gStoreI X0 hx (hb hby d_jdk_65_method_59_22) (l' := #[.val (.ref x), .val (.int (0 : Int32)), .val (.int (3 : Int32)), .val (.int i), .val (.int (2 : Int32)), .val (.int (2 : Int32)), .val (.int (2 : Int32)), .val (.int be1)]) (pc' := 24) rfl rfl ?_
        refine gLoadAN X0 hx (hb hby d_jdk_65_method_59_24) (pc' := 25) rfl rfl rfl ?_
        refine gLoadI X0 hx (hb hby d_jdk_65_method_59_25) (pc' := 27) rfl rfl ?_
        refine gIaload X0 hx hZ e0 A (j := (2 : Int32)) (v := (.int be2)) (by decide) (by decide) rfl (hb hby d_jdk_65_method_59_27) (pc' := 28) rfl ?_
        refine gStoreI X0 hx (hb hby d_jdk_65_method_59_28) (l' := #[.val (.ref x), .val (.int (0 : Int32)), .val (.int (3 : Int32)), .val (.int i), .val (.int (2 : Int32)), .val (.int (2 : Int32)), .val (.int (2 : Int32)), .val (.int be2)]) (pc' := 30) rfl rfl ?_
        refine gLoadI X0 hx (hb hby d_jdk_65_method_59_30) (pc' := 32) rfl rfl ?_
        refine gLoadIN X0 hx (hb hby d_jdk_65_method_59_32) (pc' := 33) rfl rfl ?_
        refine gIcmpGe X0 hx (hb hby d_jdk_65_method_59_33) (pc' := 45) (by decide) (by decide) (pn := 36) rfl (fun (c33' : i.toInt ≤ be2.toInt) => ?_) (fun (c33' : be2.toInt < i.toInt) => ?_)
        · refine gLoadI X0 hx (hb hby d_jdk_65_method_59_45) (pc' := 47) rfl rfl ?_
          refine gLoadIN X0 hx (hb hby d_jdk_65_method_59_47) (pc' := 48) rfl rfl ?_
          refine gIcmpLe X0 hx (hb hby d_jdk_65_method_59_48) (pc' := 60) (by decide) (by decide) (pn := 51) rfl (fun (c48 : be2.toInt ≤ i.toInt) => ?_) (fun (c48 : i.toInt < be2.toInt) => ?_)
          · refine gLoadI X0 hx (hb hby d_jdk_65_method_59_60) (pc' := 62) rfl rfl ?_
            exact gRetI X0 hx hlk hret (hb hby d_jdk_65_method_59_62) (by decide) (by decide) (⟨_, rfl, e0, rfl, by have hr : (2 : Int32).toInt = 2 := (by decide); omega⟩)
          · refine gLoadI X0 hx (hb hby d_jdk_65_method_59_51) (pc' := 53) rfl rfl ?_
            refine gIconst X0 hx (v := (1 : Int32)) (hb hby d_jdk_65_method_59_53) (pc' := 54) rfl rfl ?_
            refine gIsub X0 hx (hb hby d_jdk_65_method_59_54) (pc' := 55) rfl ?_
            show Goes p e below _ s₁ (mkF m 55 #[.val (.ref x), .val (.int (0 : Int32)), .val (.int (3 : Int32)), .val (.int i), .val (.int (2 : Int32)), .val (.int (2 : Int32)), .val (.int (2 : Int32)), .val (.int be2)] [(.int (1 : Int32))])
            refine gStoreI X0 hx (hb hby d_jdk_65_method_59_55) (l' := #[.val (.ref x), .val (.int (0 : Int32)), .val (.int (3 : Int32)), .val (.int i), .val (.int (2 : Int32)), .val (.int (1 : Int32)), .val (.int (2 : Int32)), .val (.int be2)]) (pc' := 57) rfl rfl ?_
            refine gGoto X0 hx (hb hby d_jdk_65_method_59_57) (pc' := 63) (by decide) (by decide) ?_
            refine gGoto X0 hx (hb hby d_jdk_65_method_59_63) (pc' := 8) (by decide) (by decide) ?_
            refine gLoadI X0 hx (hb hby d_jdk_65_method_59_8) (pc' := 10) rfl rfl ?_
            refine gLoadI X0 hx (hb hby d_jdk_65_method_59_10) (pc' := 12) rfl rfl ?_
            refine gIcmpGt X0 hx (hb hby d_jdk_65_method_59_12) (pc' := 66) (by decide) (by decide) (pn := 15) rfl (fun (c12'' : (1 : Int) < (2 : Int)) => ?_) (fun (c12'' : (2 : Int) ≤ (1 : Int)) => ?_)
            · refine gLoadI X0 hx (hb hby d_jdk_65_method_59_66) (pc' := 68) rfl rfl ?_
              refine gIconst X0 hx (v := (1 : Int32)) (hb hby d_jdk_65_method_59_68) (pc' := 69) rfl rfl ?_
              refine gIadd X0 hx (hb hby d_jdk_65_method_59_69) (pc' := 70) rfl ?_
              show Goes p e below _ s₁ (mkF m 70 #[.val (.ref x), .val (.int (0 : Int32)), .val (.int (3 : Int32)), .val (.int i), .val (.int (2 : Int32)), .val (.int (1 : Int32)), .val (.int (2 : Int32)), .val (.int be2)] [(.int (3 : Int32))])
              refine gIneg X0 hx (hb hby d_jdk_65_method_59_70) (pc' := 71) rfl ?_
              show Goes p e below _ s₁ (mkF m 71 #[.val (.ref x), .val (.int (0 : Int32)), .val (.int (3 : Int32)), .val (.int i), .val (.int (2 : Int32)), .val (.int (1 : Int32)), .val (.int (2 : Int32)), .val (.int be2)] [(.int (-3 : Int32))])
              exact gRetI X0 hx hlk hret (hb hby d_jdk_65_method_59_71) (by decide) (by decide) (⟨_, rfl, e0, rfl, by have hr : (-3 : Int32).toInt = -3 := (by decide); omega⟩)
            · exact absurd c12'' (by decide)
        · refine gLoadI X0 hx (hb hby d_jdk_65_method_59_36) (pc' := 38) rfl rfl ?_
          refine gIconst X0 hx (v := (1 : Int32)) (hb hby d_jdk_65_method_59_38) (pc' := 39) rfl rfl ?_
          refine gIadd X0 hx (hb hby d_jdk_65_method_59_39) (pc' := 40) rfl ?_
          show Goes p e below _ s₁ (mkF m 40 #[.val (.ref x), .val (.int (0 : Int32)), .val (.int (3 : Int32)), .val (.int i), .val (.int (2 : Int32)), .val (.int (2 : Int32)), .val (.int (2 : Int32)), .val (.int be2)] [(.int (3 : Int32))])
          refine gStoreI X0 hx (hb hby d_jdk_65_method_59_40) (l' := #[.val (.ref x), .val (.int (0 : Int32)), .val (.int (3 : Int32)), .val (.int i), .val (.int (3 : Int32)), .val (.int (2 : Int32)), .val (.int (2 : Int32)), .val (.int be2)]) (pc' := 42) rfl rfl ?_
          refine gGoto X0 hx (hb hby d_jdk_65_method_59_42) (pc' := 63) (by decide) (by decide) ?_
          refine gGoto X0 hx (hb hby d_jdk_65_method_59_63) (pc' := 8) (by decide) (by decide) ?_
          refine gLoadI X0 hx (hb hby d_jdk_65_method_59_8) (pc' := 10) rfl rfl ?_
          refine gLoadI X0 hx (hb hby d_jdk_65_method_59_10) (pc' := 12) rfl rfl ?_
          refine gIcmpGt X0 hx (hb hby d_jdk_65_method_59_12) (pc' := 66) (by decide) (by decide) (pn := 15) rfl (fun (c12'' : (2 : Int) < (3 : Int)) => ?_) (fun (c12'' : (3 : Int) ≤ (2 : Int)) => ?_)
          · refine gLoadI X0 hx (hb hby d_jdk_65_method_59_66) (pc' := 68) rfl rfl ?_
            refine gIconst X0 hx (v := (1 : Int32)) (hb hby d_jdk_65_method_59_68) (pc' := 69) rfl rfl ?_
            refine gIadd X0 hx (hb hby d_jdk_65_method_59_69) (pc' := 70) rfl ?_
            show Goes p e below _ s₁ (mkF m 70 #[.val (.ref x), .val (.int (0 : Int32)), .val (.int (3 : Int32)), .val (.int i), .val (.int (3 : Int32)), .val (.int (2 : Int32)), .val (.int (2 : Int32)), .val (.int be2)] [(.int (4 : Int32))])
            refine gIneg X0 hx (hb hby d_jdk_65_method_59_70) (pc' := 71) rfl ?_
            show Goes p e below _ s₁ (mkF m 71 #[.val (.ref x), .val (.int (0 : Int32)), .val (.int (3 : Int32)), .val (.int i), .val (.int (3 : Int32)), .val (.int (2 : Int32)), .val (.int (2 : Int32)), .val (.int be2)] [(.int (-4 : Int32))])
            exact gRetI X0 hx hlk hret (hb hby d_jdk_65_method_59_71) (by decide) (by decide) (⟨_, rfl, e0, rfl, by have hr : (-4 : Int32).toInt = -4 := (by decide); omega⟩)
          · exact absurd c12'' (by decide)
theorem ef_c_bs_3 (m : MethodId) (x : Addr) (i : Int32) : entryFrame m #[(.ref x), (.int i)] 2 = mkF m 0 #[.val (.ref x), .val (.int i)] [] := by first | (simp [entryFrame, mkF, argsToLocals, Value.category]; done) | rfl
set_option maxRecDepth 65536 in
set_option maxHeartbeats 40000000 in
theorem c_bs_3 (l : Launch) (Z : State) (a0 : Array Value) (hw : ∀ d ∈ tables_1, d.before a0 Z = true) (x : Addr) (ck : ClassId) (i : Int32) (be1 be2 : Int32) (h0 : Heap) (hi : 0 ≤ i.toInt) (hbe1 : 0 < be1.toInt) (hbe2 : be1.toInt < be2.toInt) (A : Arv Z h0 x ck .int 3 [(.int (0 : Int32)), (.int be1), (.int be2)] (.int 0)) :
    Ctr l Z (⟨"java/util/Arrays", "binarySearch", "([II)I"⟩ : MethodName) jdk_65_method_57_code 2 (some .int) [] ({ frames := 1, cells := 0, slots := 0, locals := 19 } : Room) #[(.ref x), (.int i)] h0 (fun v h L => ∃ r : Int32, v = some (.int r) ∧ h = h0 ∧ L = [] ∧ ((r.toInt = 0 ∨ r.toInt = -2) ∧ i.toInt < be1.toInt ∨ (r.toInt = 1 ∨ r.toInt = -3) ∧ be1.toInt ≤ i.toInt ∧ i.toInt < be2.toInt ∨ (r.toInt = 2 ∨ r.toInt = -4) ∧ be2.toInt ≤ i.toInt)) := by
  refine Ctr.of (plainFor_of_name pn_3) ?_
  intro p e s m below meth c s₁ hx hby hml hret hown hnm hZ hlk X0 e0
  refine Goes.cast (ef_c_bs_3 m x i) ?_
  refine gLoadAN X0 hx (hb hby d_jdk_65_method_57_0) (pc' := 1) rfl rfl rfl ?_
  refine gIconst X0 hx (v := (0 : Int32)) (hb hby d_jdk_65_method_57_1) (pc' := 2) rfl rfl ?_
  refine gLoadAN X0 hx (hb hby d_jdk_65_method_57_2) (pc' := 3) rfl rfl rfl ?_
  refine gArrLen X0 hx hZ e0 A (hb hby d_jdk_65_method_57_3) (pc' := 4) rfl ?_
  refine gLoadIN X0 hx (hb hby d_jdk_65_method_57_4) (pc' := 5) rfl rfl ?_
  refine gCallS X0 hx hZ (y := (⟨"java/util/Arrays", "binarySearch0", "([IIII)I"⟩ : MethodName)) hown e0 (by rw [hml]; rfl) (hw _ (List.mem_of_getElem? (i := 37) rfl)) (hw _ (List.mem_of_getElem? (i := 38) rfl)) (hw _ (List.mem_of_getElem? (i := 35) rfl)) (hw _ (List.mem_of_getElem? (i := 39) rfl)) (by decide) (argsL := [(.ref x), (.int (0 : Int32)), (.int (3 : Int32)), (.int i)]) (st := []) (c_bs0_3 l Z a0 hw x ck i be1 be2 h0 hi hbe1 hbe2 A) (lenOf pd_4 rfl) (hb hby d_jdk_65_method_57_5) (pc' := 8) rfl rfl (by decide) (W := 0) (Nat.le_of_eq rfl) (by decide) (by decide) (by decide) ?_
  intro T1 v1 L1 X1 hQ1
  obtain ⟨r, rfl, eq1, rfl, hr⟩ := hQ1
  rw [List.append_nil] at X1
  exact gRetI X1 hx hlk hret (hb hby d_jdk_65_method_57_8) (by decide) (by decide) (⟨_, rfl, eq1, rfl, hr⟩)
theorem own_lit {r : Int32} (k : Int32) (h : r.toInt = k.toInt) : r = k := Int32.toInt_inj.mp h
theorem d_prog_19_method_4_0 : decode prog_19_method_4_code 0 = .ok (.aload_n 0, 1) := by decide +kernel
theorem d_prog_19_method_4_1 : decode prog_19_method_4_code 1 = .ok (.getfield 17, 3) := by decide +kernel
theorem d_prog_19_method_4_4 : decode prog_19_method_4_code 4 = .ok (.iload_n 1, 1) := by decide +kernel
theorem d_prog_19_method_4_5 : decode prog_19_method_4_code 5 = .ok (.invokestatic 24, 3) := by decide +kernel
theorem pd_3 : parseMethodDescriptor "([II)I" = some ⟨[(.array .int), .int], some .int⟩ := by decide +kernel
theorem d_prog_19_method_4_8 : decode prog_19_method_4_code 8 = .ok (.istore_n 2, 1) := by decide +kernel
theorem d_prog_19_method_4_9 : decode prog_19_method_4_code 9 = .ok (.iload_n 2, 1) := by decide +kernel
theorem d_prog_19_method_4_10 : decode prog_19_method_4_code 10 = .ok (.ifCond .lt 7, 3) := by decide +kernel
theorem d_prog_19_method_4_13 : decode prog_19_method_4_code 13 = .ok (.iload_n 2, 1) := by decide +kernel
theorem d_prog_19_method_4_14 : decode prog_19_method_4_code 14 = .ok (.goto 7, 3) := by decide +kernel
theorem d_prog_19_method_4_21 : decode prog_19_method_4_code 21 = .ok (.istore_n 3, 1) := by decide +kernel
theorem d_prog_19_method_4_22 : decode prog_19_method_4_code 22 = .ok (.aload_n 0, 1) := by decide +kernel
theorem d_prog_19_method_4_23 : decode prog_19_method_4_code 23 = .ok (.getfield 21, 3) := by decide +kernel
theorem d_prog_19_method_4_26 : decode prog_19_method_4_code 26 = .ok (.iload_n 3, 1) := by decide +kernel
theorem d_prog_19_method_4_27 : decode prog_19_method_4_code 27 = .ok (.iaload, 1) := by decide +kernel
theorem d_prog_19_method_4_28 : decode prog_19_method_4_code 28 = .ok (.iload_n 1, 1) := by decide +kernel
theorem d_prog_19_method_4_29 : decode prog_19_method_4_code 29 = .ok (.iadd, 1) := by decide +kernel
theorem d_prog_19_method_4_30 : decode prog_19_method_4_code 30 = .ok (.aload_n 0, 1) := by decide +kernel
theorem d_prog_19_method_4_31 : decode prog_19_method_4_code 31 = .ok (.getfield 17, 3) := by decide +kernel
theorem d_prog_19_method_4_34 : decode prog_19_method_4_code 34 = .ok (.iload_n 3, 1) := by decide +kernel
theorem d_prog_19_method_4_35 : decode prog_19_method_4_code 35 = .ok (.iaload, 1) := by decide +kernel
theorem d_prog_19_method_4_36 : decode prog_19_method_4_code 36 = .ok (.isub, 1) := by decide +kernel
theorem d_prog_19_method_4_37 : decode prog_19_method_4_code 37 = .ok (.ireturn, 1) := by decide +kernel
theorem d_prog_19_method_4_17 : decode prog_19_method_4_code 17 = .ok (.iload_n 2, 1) := by decide +kernel
theorem d_prog_19_method_4_18 : decode prog_19_method_4_code 18 = .ok (.ineg, 1) := by decide +kernel
theorem d_prog_19_method_4_19 : decode prog_19_method_4_code 19 = .ok (.iconst 2, 1) := by decide +kernel
theorem d_prog_19_method_4_20 : decode prog_19_method_4_code 20 = .ok (.isub, 1) := by decide +kernel
theorem pn_0 : plainName "com/example/clausewright/clausewright/layout/Block" = true := by first | (simp [plainName, overriddenIn]; done) | decide +kernel
theorem ef_c_start_1 (m : MethodId) (a : Addr) (i : Int32) : entryFrame m #[(.ref a), (.int i)] 4 = mkF m 0 #[.val (.ref a), .val (.int i), .unset, .unset] [] := by first | (simp [entryFrame, mkF, argsToLocals, Value.category]; done) | rfl
set_option maxRecDepth 65536 in
set_option maxHeartbeats 40000000 in
theorem c_start_1 (l : Launch) (Z : State) (a0 : Array Value) (hw : ∀ d ∈ tables_1, d.before a0 Z = true) (a x y : Addr) (ck cy : ClassId) (i  t0 : Int32) (h0 : Heap) (hi : 0 ≤ i.toInt) (F1 : Fld Z h0 a "com/example/clausewright/clausewright/layout/Block" "blockStarts" "[I" (.ref x)) (F2 : Fld Z h0 a "com/example/clausewright/clausewright/layout/Block" "textStarts" "[I" (.ref y)) (A : Arv Z h0 x ck .int 1 [(.int (0 : Int32))] (.int 0)) (B : Arv Z h0 y cy .int 1 [(.int t0)] (.int 0)) :
    Ctr l Z (⟨"com/example/clausewright/clausewright/layout/Block", "start", "(I)I"⟩ : MethodName) prog_19_method_4_code 4 (some .int) [] ({ frames := 2, cells := 0, slots := 0, locals := 32 } : Room) #[(.ref a), (.int i)] h0 (fun v h L => ∃ r : Int32, v = some (.int r) ∧ h = h0 ∧ L = [] ∧ (0 ≤ i.toInt → r = t0 + i - (0 : Int32))) := by
  refine Ctr.of (plainFor_of_name pn_0) ?_
  intro p e s m below meth c s₁ hx hby hml hret hown hnm hZ hlk X0 e0
  refine Goes.cast (ef_c_start_1 m a i) ?_
  refine gLoadAN X0 hx (hb hby d_prog_19_method_4_0) (pc' := 1) rfl rfl rfl ?_
  refine gGetF X0 hx hZ hown (hw _ (List.mem_of_getElem? (i := 24) rfl)) Via.refl e0 F1 (hb hby d_prog_19_method_4_1) (pc' := 4) rfl (fun T1 X1 e1 => ?_)
  refine gLoadIN X1 hx (hb hby d_prog_19_method_4_4) (pc' := 5) rfl rfl ?_
  refine gCallS X1 hx hZ (y := (⟨"java/util/Arrays", "binarySearch", "([II)I"⟩ : MethodName)) hown e1 (by rw [hml]; rfl) (hw _ (List.mem_of_getElem? (i := 33) rfl)) (hw _ (List.mem_of_getElem? (i := 34) rfl)) (hw _ (List.mem_of_getElem? (i := 35) rfl)) (hw _ (List.mem_of_getElem? (i := 36) rfl)) (by decide) (argsL := [(.ref x), (.int i)]) (st := []) (c_bs_1 l Z a0 hw x ck i  h0 hi A) (lenOf pd_3 rfl) (hb hby d_prog_19_method_4_5) (pc' := 8) rfl rfl (by decide) (W := 0) (Nat.le_of_eq rfl) (by decide) (by decide) (by decide) ?_
  intro T2 v2 L2 X2 hQ2
  obtain ⟨r, rfl, eq2, rfl, hr⟩ := hQ2
  rw [List.append_nil] at X2
  rcases hr with ⟨hr | hr, hc⟩
  · obtain rfl := own_lit (0) hr
    refine gStoreIN X2 hx (hb hby d_prog_19_method_4_8) (l' := #[.val (.ref a), .val (.int i), .val (.int (0 : Int32)), .unset]) (pc' := 9) rfl rfl ?_
    refine gLoadIN X2 hx (hb hby d_prog_19_method_4_9) (pc' := 10) rfl rfl ?_
    refine gIfLt X2 hx (hb hby d_prog_19_method_4_10) (pc' := 17) (by decide) (by decide) (pn := 13) rfl (fun (c10 : (0 : Int) < (0 : Int)) => ?_) (fun (c10 : (0 : Int) ≤ (0 : Int)) => ?_)
    · exact absurd c10 (by decide)
    · refine gLoadIN X2 hx (hb hby d_prog_19_method_4_13) (pc' := 14) rfl rfl ?_
      refine gGoto X2 hx (hb hby d_prog_19_method_4_14) (pc' := 21) (by decide) (by decide) ?_
      refine gStoreIN X2 hx (hb hby d_prog_19_method_4_21) (l' := #[.val (.ref a), .val (.int i), .val (.int (0 : Int32)), .val (.int (0 : Int32))]) (pc' := 22) rfl rfl ?_
      refine gLoadAN X2 hx (hb hby d_prog_19_method_4_22) (pc' := 23) rfl rfl rfl ?_
      refine gGetF X2 hx hZ hown (hw _ (List.mem_of_getElem? (i := 26) rfl)) Via.refl eq2 F2 (hb hby d_prog_19_method_4_23) (pc' := 26) rfl (fun T3 X3 e3 => ?_)
      refine gLoadIN X3 hx (hb hby d_prog_19_method_4_26) (pc' := 27) rfl rfl ?_
      refine gIaload X3 hx hZ e3 B (j := (0 : Int32)) (v := (.int t0)) (by decide) (by decide) rfl (hb hby d_prog_19_method_4_27) (pc' := 28) rfl ?_
      refine gLoadIN X3 hx (hb hby d_prog_19_method_4_28) (pc' := 29) rfl rfl ?_
      refine gIadd X3 hx (hb hby d_prog_19_method_4_29) (pc' := 30) rfl ?_
      refine gLoadAN X3 hx (hb hby d_prog_19_method_4_30) (pc' := 31) rfl rfl rfl ?_
      refine gGetF X3 hx hZ hown (hw _ (List.mem_of_getElem? (i := 24) rfl)) Via.refl e3 F1 (hb hby d_prog_19_method_4_31) (pc' := 34) rfl (fun T4 X4 e4 => ?_)
      refine gLoadIN X4 hx (hb hby d_prog_19_method_4_34) (pc' := 35) rfl rfl ?_
      refine gIaload X4 hx hZ e4 A (j := (0 : Int32)) (v := (.int (0 : Int32))) (by decide) (by decide) rfl (hb hby d_prog_19_method_4_35) (pc' := 36) rfl ?_
      refine gIsub X4 hx (hb hby d_prog_19_method_4_36) (pc' := 37) rfl ?_
      exact gRetI X4 hx hlk hret (hb hby d_prog_19_method_4_37) (by decide) (by decide) (⟨_, rfl, e4, rfl, fun _ => rfl⟩)
  · obtain rfl := own_lit (-2) hr
    refine gStoreIN X2 hx (hb hby d_prog_19_method_4_8) (l' := #[.val (.ref a), .val (.int i), .val (.int (-2 : Int32)), .unset]) (pc' := 9) rfl rfl ?_
    refine gLoadIN X2 hx (hb hby d_prog_19_method_4_9) (pc' := 10) rfl rfl ?_
    refine gIfLt X2 hx (hb hby d_prog_19_method_4_10) (pc' := 17) (by decide) (by decide) (pn := 13) rfl (fun (c10 : (-2 : Int) < (0 : Int)) => ?_) (fun (c10 : (0 : Int) ≤ (-2 : Int)) => ?_)
    · refine gLoadIN X2 hx (hb hby d_prog_19_method_4_17) (pc' := 18) rfl rfl ?_
      refine gIneg X2 hx (hb hby d_prog_19_method_4_18) (pc' := 19) rfl ?_
      show Goes p e below _ T2 (mkF m 19 #[.val (.ref a), .val (.int i), .val (.int (-2 : Int32)), .unset] [(.int (2 : Int32))])
      refine gIconst X2 hx (v := (2 : Int32)) (hb hby d_prog_19_method_4_19) (pc' := 20) rfl rfl ?_
      refine gIsub X2 hx (hb hby d_prog_19_method_4_20) (pc' := 21) rfl ?_
      show Goes p e below _ T2 (mkF m 21 #[.val (.ref a), .val (.int i), .val (.int (-2 : Int32)), .unset] [(.int (0 : Int32))])
      refine gStoreIN X2 hx (hb hby d_prog_19_method_4_21) (l' := #[.val (.ref a), .val (.int i), .val (.int (-2 : Int32)), .val (.int (0 : Int32))]) (pc' := 22) rfl rfl ?_
      refine gLoadAN X2 hx (hb hby d_prog_19_method_4_22) (pc' := 23) rfl rfl rfl ?_
      refine gGetF X2 hx hZ hown (hw _ (List.mem_of_getElem? (i := 26) rfl)) Via.refl eq2 F2 (hb hby d_prog_19_method_4_23) (pc' := 26) rfl (fun T5 X5 e5 => ?_)
      refine gLoadIN X5 hx (hb hby d_prog_19_method_4_26) (pc' := 27) rfl rfl ?_
      refine gIaload X5 hx hZ e5 B (j := (0 : Int32)) (v := (.int t0)) (by decide) (by decide) rfl (hb hby d_prog_19_method_4_27) (pc' := 28) rfl ?_
      refine gLoadIN X5 hx (hb hby d_prog_19_method_4_28) (pc' := 29) rfl rfl ?_
      refine gIadd X5 hx (hb hby d_prog_19_method_4_29) (pc' := 30) rfl ?_
      refine gLoadAN X5 hx (hb hby d_prog_19_method_4_30) (pc' := 31) rfl rfl rfl ?_
      refine gGetF X5 hx hZ hown (hw _ (List.mem_of_getElem? (i := 24) rfl)) Via.refl e5 F1 (hb hby d_prog_19_method_4_31) (pc' := 34) rfl (fun T6 X6 e6 => ?_)
      refine gLoadIN X6 hx (hb hby d_prog_19_method_4_34) (pc' := 35) rfl rfl ?_
      refine gIaload X6 hx hZ e6 A (j := (0 : Int32)) (v := (.int (0 : Int32))) (by decide) (by decide) rfl (hb hby d_prog_19_method_4_35) (pc' := 36) rfl ?_
      refine gIsub X6 hx (hb hby d_prog_19_method_4_36) (pc' := 37) rfl ?_
      exact gRetI X6 hx hlk hret (hb hby d_prog_19_method_4_37) (by decide) (by decide) (⟨_, rfl, e6, rfl, fun _ => rfl⟩)
    · exact absurd c10 (by decide)
theorem ef_c_start_2 (m : MethodId) (a : Addr) (i : Int32) : entryFrame m #[(.ref a), (.int i)] 4 = mkF m 0 #[.val (.ref a), .val (.int i), .unset, .unset] [] := by first | (simp [entryFrame, mkF, argsToLocals, Value.category]; done) | rfl
set_option maxRecDepth 65536 in
set_option maxHeartbeats 40000000 in
theorem c_start_2 (l : Launch) (Z : State) (a0 : Array Value) (hw : ∀ d ∈ tables_1, d.before a0 Z = true) (a x y : Addr) (ck cy : ClassId) (i be1 t0 sv1 : Int32) (h0 : Heap) (hi : 0 ≤ i.toInt) (hbe1 : 0 < be1.toInt) (F1 : Fld Z h0 a "com/example/clausewright/clausewright/layout/Block" "blockStarts" "[I" (.ref x)) (F2 : Fld Z h0 a "com/example/clausewright/clausewright/layout/Block" "textStarts" "[I" (.ref y)) (A : Arv Z h0 x ck .int 2 [(.int (0 : Int32)), (.int be1)] (.int 0)) (B : Arv Z h0 y cy .int 2 [(.int t0), (.int sv1)] (.int 0)) :
    Ctr l Z (⟨"com/example/clausewright/clausewright/layout/Block", "start", "(I)I"⟩ : MethodName) prog_19_method_4_code 4 (some .int) [] ({ frames := 2, cells := 0, slots := 0, locals := 32 } : Room) #[(.ref a), (.int i)] h0 (fun v h L => ∃ r : Int32, v = some (.int r) ∧ h = h0 ∧ L = [] ∧ (i.toInt < be1.toInt → r = t0 + i - (0 : Int32)) ∧ (be1.toInt ≤ i.toInt → r = sv1 + i - be1)) := by
  refine Ctr.of (plainFor_of_name pn_0) ?_
  intro p e s m below meth c s₁ hx hby hml hret hown hnm hZ hlk X0 e0
  refine Goes.cast (ef_c_start_2 m a i) ?_
  refine gLoadAN X0 hx (hb hby d_prog_19_method_4_0) (pc' := 1) rfl rfl rfl ?_
  refine gGetF X0 hx hZ hown (hw _ (List.mem_of_getElem? (i := 24) rfl)) Via.refl e0 F1 (hb hby d_prog_19_method_4_1) (pc' := 4) rfl (fun T1 X1 e1 => ?_)
  refine gLoadIN X1 hx (hb hby d_prog_19_method_4_4) (pc' := 5) rfl rfl ?_
  refine gCallS X1 hx hZ (y := (⟨"java/util/Arrays", "binarySearch", "([II)I"⟩ : MethodName)) hown e1 (by rw [hml]; rfl) (hw _ (List.mem_of_getElem? (i := 33) rfl)) (hw _ (List.mem_of_getElem? (i := 34) rfl)) (hw _ (List.mem_of_getElem? (i := 35) rfl)) (hw _ (List.mem_of_getElem? (i := 36) rfl)) (by decide) (argsL := [(.ref x), (.int i)]) (st := []) (c_bs_2 l Z a0 hw x ck i be1 h0 hi hbe1 A) (lenOf pd_3 rfl) (hb hby d_prog_19_method_4_5) (pc' := 8) rfl rfl (by decide) (W := 0) (Nat.le_of_eq rfl) (by decide) (by decide) (by decide) ?_
  intro T2 v2 L2 X2 hQ2
  obtain ⟨r, rfl, eq2, rfl, hr⟩ := hQ2
  rw [List.append_nil] at X2
  rcases hr with ⟨hr | hr, hc⟩ | ⟨hr | hr, hc⟩
  · obtain rfl := own_lit (0) hr
    refine gStoreIN X2 hx (hb hby d_prog_19_method_4_8) (l' := #[.val (.ref a), .val (.int i), .val (.int (0 : Int32)), .unset]) (pc' := 9) rfl rfl ?_
    refine gLoadIN X2 hx (hb hby d_prog_19_method_4_9) (pc' := 10) rfl rfl ?_
    refine gIfLt X2 hx (hb hby d_prog_19_method_4_10) (pc' := 17) (by decide) (by decide) (pn := 13) rfl (fun (c10 : (0 : Int) < (0 : Int)) => ?_) (fun (c10 : (0 : Int) ≤ (0 : Int)) => ?_)
    · exact absurd c10 (by decide)
    · refine gLoadIN X2 hx (hb hby d_prog_19_method_4_13) (pc' := 14) rfl rfl ?_
      refine gGoto X2 hx (hb hby d_prog_19_method_4_14) (pc' := 21) (by decide) (by decide) ?_
      refine gStoreIN X2 hx (hb hby d_prog_19_method_4_21) (l' := #[.val (.ref a), .val (.int i), .val (.int (0 : Int32)), .val (.int (0 : Int32))]) (pc' := 22) rfl rfl ?_
      refine gLoadAN X2 hx (hb hby d_prog_19_method_4_22) (pc' := 23) rfl rfl rfl ?_
      refine gGetF X2 hx hZ hown (hw _ (List.mem_of_getElem? (i := 26) rfl)) Via.refl eq2 F2 (hb hby d_prog_19_method_4_23) (pc' := 26) rfl (fun T3 X3 e3 => ?_)
      refine gLoadIN X3 hx (hb hby d_prog_19_method_4_26) (pc' := 27) rfl rfl ?_
      refine gIaload X3 hx hZ e3 B (j := (0 : Int32)) (v := (.int t0)) (by decide) (by decide) rfl (hb hby d_prog_19_method_4_27) (pc' := 28) rfl ?_
      refine gLoadIN X3 hx (hb hby d_prog_19_method_4_28) (pc' := 29) rfl rfl ?_
      refine gIadd X3 hx (hb hby d_prog_19_method_4_29) (pc' := 30) rfl ?_
      refine gLoadAN X3 hx (hb hby d_prog_19_method_4_30) (pc' := 31) rfl rfl rfl ?_
      refine gGetF X3 hx hZ hown (hw _ (List.mem_of_getElem? (i := 24) rfl)) Via.refl e3 F1 (hb hby d_prog_19_method_4_31) (pc' := 34) rfl (fun T4 X4 e4 => ?_)
      refine gLoadIN X4 hx (hb hby d_prog_19_method_4_34) (pc' := 35) rfl rfl ?_
      refine gIaload X4 hx hZ e4 A (j := (0 : Int32)) (v := (.int (0 : Int32))) (by decide) (by decide) rfl (hb hby d_prog_19_method_4_35) (pc' := 36) rfl ?_
      refine gIsub X4 hx (hb hby d_prog_19_method_4_36) (pc' := 37) rfl ?_
      exact gRetI X4 hx hlk hret (hb hby d_prog_19_method_4_37) (by decide) (by decide) (⟨_, rfl, e4, rfl, fun _ => rfl, fun q => absurd q (by omega)⟩)
  · obtain rfl := own_lit (-2) hr
    refine gStoreIN X2 hx (hb hby d_prog_19_method_4_8) (l' := #[.val (.ref a), .val (.int i), .val (.int (-2 : Int32)), .unset]) (pc' := 9) rfl rfl ?_
    refine gLoadIN X2 hx (hb hby d_prog_19_method_4_9) (pc' := 10) rfl rfl ?_
    refine gIfLt X2 hx (hb hby d_prog_19_method_4_10) (pc' := 17) (by decide) (by decide) (pn := 13) rfl (fun (c10 : (-2 : Int) < (0 : Int)) => ?_) (fun (c10 : (0 : Int) ≤ (-2 : Int)) => ?_)
    · refine gLoadIN X2 hx (hb hby d_prog_19_method_4_17) (pc' := 18) rfl rfl ?_
      refine gIneg X2 hx (hb hby d_prog_19_method_4_18) (pc' := 19) rfl ?_
      show Goes p e below _ T2 (mkF m 19 #[.val (.ref a), .val (.int i), .val (.int (-2 : Int32)), .unset] [(.int (2 : Int32))])
      refine gIconst X2 hx (v := (2 : Int32)) (hb hby d_prog_19_method_4_19) (pc' := 20) rfl rfl ?_
      refine gIsub X2 hx (hb hby d_prog_19_method_4_20) (pc' := 21) rfl ?_
      show Goes p e below _ T2 (mkF m 21 #[.val (.ref a), .val (.int i), .val (.int (-2 : Int32)), .unset] [(.int (0 : Int32))])
      refine gStoreIN X2 hx (hb hby d_prog_19_method_4_21) (l' := #[.val (.ref a), .val (.int i), .val (.int (-2 : Int32)), .val (.int (0 : Int32))]) (pc' := 22) rfl rfl ?_
      refine gLoadAN X2 hx (hb hby d_prog_19_method_4_22) (pc' := 23) rfl rfl rfl ?_
      refine gGetF X2 hx hZ hown (hw _ (List.mem_of_getElem? (i := 26) rfl)) Via.refl eq2 F2 (hb hby d_prog_19_method_4_23) (pc' := 26) rfl (fun T5 X5 e5 => ?_)
      refine gLoadIN X5 hx (hb hby d_prog_19_method_4_26) (pc' := 27) rfl rfl ?_
      refine gIaload X5 hx hZ e5 B (j := (0 : Int32)) (v := (.int t0)) (by decide) (by decide) rfl (hb hby d_prog_19_method_4_27) (pc' := 28) rfl ?_
      refine gLoadIN X5 hx (hb hby d_prog_19_method_4_28) (pc' := 29) rfl rfl ?_
      refine gIadd X5 hx (hb hby d_prog_19_method_4_29) (pc' := 30) rfl ?_
      refine gLoadAN X5 hx (hb hby d_prog_19_method_4_30) (pc' := 31) rfl rfl rfl ?_
      refine gGetF X5 hx hZ hown (hw _ (List.mem_of_getElem? (i := 24) rfl)) Via.refl e5 F1 (hb hby d_prog_19_method_4_31) (pc' := 34) rfl (fun T6 X6 e6 => ?_)
      refine gLoadIN X6 hx (hb hby d_prog_19_method_4_34) (pc' := 35) rfl rfl ?_
      refine gIaload X6 hx hZ e6 A (j := (0 : Int32)) (v := (.int (0 : Int32))) (by decide) (by decide) rfl (hb hby d_prog_19_method_4_35) (pc' := 36) rfl ?_
      refine gIsub X6 hx (hb hby d_prog_19_method_4_36) (pc' := 37) rfl ?_
      exact gRetI X6 hx hlk hret (hb hby d_prog_19_method_4_37) (by decide) (by decide) (⟨_, rfl, e6, rfl, fun _ => rfl, fun q => absurd q (by omega)⟩)
    · exact absurd c10 (by decide)
  · obtain rfl := own_lit (1) hr
    refine gStoreIN X2 hx (hb hby d_prog_19_method_4_8) (l' := #[.val (.ref a), .val (.int i), .val (.int (1 : Int32)), .unset]) (pc' := 9) rfl rfl ?_
    refine gLoadIN X2 hx (hb hby d_prog_19_method_4_9) (pc' := 10) rfl rfl ?_
    refine gIfLt X2 hx (hb hby d_prog_19_method_4_10) (pc' := 17) (by decide) (by decide) (pn := 13) rfl (fun (c10 : (1 : Int) < (0 : Int)) => ?_) (fun (c10 : (0 : Int) ≤ (1 : Int)) => ?_)
    · exact absurd c10 (by decide)
    · refine gLoadIN X2 hx (hb hby d_prog_19_method_4_13) (pc' := 14) rfl rfl ?_
      refine gGoto X2 hx (hb hby d_prog_19_method_4_14) (pc' := 21) (by decide) (by decide) ?_
      refine gStoreIN X2 hx (hb hby d_prog_19_method_4_21) (l' := #[.val (.ref a), .val (.int i), .val (.int (1 : Int32)), .val (.int (1 : Int32))]) (pc' := 22) rfl rfl ?_
      refine gLoadAN X2 hx (hb hby d_prog_19_method_4_22) (pc' := 23) rfl rfl rfl ?_
      refine gGetF X2 hx hZ hown (hw _ (List.mem_of_getElem? (i := 26) rfl)) Via.refl eq2 F2 (hb hby d_prog_19_method_4_23) (pc' := 26) rfl (fun T7 X7 e7 => ?_)
      refine gLoadIN X7 hx (hb hby d_prog_19_method_4_26) (pc' := 27) rfl rfl ?_
      refine gIaload X7 hx hZ e7 B (j := (1 : Int32)) (v := (.int sv1)) (by decide) (by decide) rfl (hb hby d_prog_19_method_4_27) (pc' := 28) rfl ?_
      refine gLoadIN X7 hx (hb hby d_prog_19_method_4_28) (pc' := 29) rfl rfl ?_
      refine gIadd X7 hx (hb hby d_prog_19_method_4_29) (pc' := 30) rfl ?_
      refine gLoadAN X7 hx (hb hby d_prog_19_method_4_30) (pc' := 31) rfl rfl rfl ?_
      refine gGetF X7 hx hZ hown (hw _ (List.mem_of_getElem? (i := 24) rfl)) Via.refl e7 F1 (hb hby d_prog_19_method_4_31) (pc' := 34) rfl (fun T8 X8 e8 => ?_)
      refine gLoadIN X8 hx (hb hby d_prog_19_method_4_34) (pc' := 35) rfl rfl ?_
      refine gIaload X8 hx hZ e8 A (j := (1 : Int32)) (v := (.int be1)) (by decide) (by decide) rfl (hb hby d_prog_19_method_4_35) (pc' := 36) rfl ?_
      refine gIsub X8 hx (hb hby d_prog_19_method_4_36) (pc' := 37) rfl ?_
      exact gRetI X8 hx hlk hret (hb hby d_prog_19_method_4_37) (by decide) (by decide) (⟨_, rfl, e8, rfl, fun q => absurd q (by omega), fun _ => rfl⟩)
  · obtain rfl := own_lit (-3) hr
    refine gStoreIN X2 hx (hb hby d_prog_19_method_4_8) (l' := #[.val (.ref a), .val (.int i), .val (.int (-3 : Int32)), .unset]) (pc' := 9) rfl rfl ?_
    refine gLoadIN X2 hx (hb hby d_prog_19_method_4_9) (pc' := 10) rfl rfl ?_
    refine gIfLt X2 hx (hb hby d_prog_19_method_4_10) (pc' := 17) (by decide) (by decide) (pn := 13) rfl (fun (c10 : (-3 : Int) < (0 : Int)) => ?_) (fun (c10 : (0 : Int) ≤ (-3 : Int)) => ?_)
    · refine gLoadIN X2 hx (hb hby d_prog_19_method_4_17) (pc' := 18) rfl rfl ?_
      refine gIneg X2 hx (hb hby d_prog_19_method_4_18) (pc' := 19) rfl ?_
      show Goes p e below _ T2 (mkF m 19 #[.val (.ref a), .val (.int i), .val (.int (-3 : Int32)), .unset] [(.int (3 : Int32))])
      refine gIconst X2 hx (v := (2 : Int32)) (hb hby d_prog_19_method_4_19) (pc' := 20) rfl rfl ?_
      refine gIsub X2 hx (hb hby d_prog_19_method_4_20) (pc' := 21) rfl ?_
      show Goes p e below _ T2 (mkF m 21 #[.val (.ref a), .val (.int i), .val (.int (-3 : Int32)), .unset] [(.int (1 : Int32))])
      refine gStoreIN X2 hx (hb hby d_prog_19_method_4_21) (l' := #[.val (.ref a), .val (.int i), .val (.int (-3 : Int32)), .val (.int (1 : Int32))]) (pc' := 22) rfl rfl ?_
      refine gLoadAN X2 hx (hb hby d_prog_19_method_4_22) (pc' := 23) rfl rfl rfl ?_
      refine gGetF X2 hx hZ hown (hw _ (List.mem_of_getElem? (i := 26) rfl)) Via.refl eq2 F2 (hb hby d_prog_19_method_4_23) (pc' := 26) rfl (fun T9 X9 e9 => ?_)
      refine gLoadIN X9 hx (hb hby d_prog_19_method_4_26) (pc' := 27) rfl rfl ?_
      refine gIaload X9 hx hZ e9 B (j := (1 : Int32)) (v := (.int sv1)) (by decide) (by decide) rfl (hb hby d_prog_19_method_4_27) (pc' := 28) rfl ?_
      refine gLoadIN X9 hx (hb hby d_prog_19_method_4_28) (pc' := 29) rfl rfl ?_
      refine gIadd X9 hx (hb hby d_prog_19_method_4_29) (pc' := 30) rfl ?_
      refine gLoadAN X9 hx (hb hby d_prog_19_method_4_30) (pc' := 31) rfl rfl rfl ?_
      refine gGetF X9 hx hZ hown (hw _ (List.mem_of_getElem? (i := 24) rfl)) Via.refl e9 F1 (hb hby d_prog_19_method_4_31) (pc' := 34) rfl (fun T10 X10 e10 => ?_)
      refine gLoadIN X10 hx (hb hby d_prog_19_method_4_34) (pc' := 35) rfl rfl ?_
      refine gIaload X10 hx hZ e10 A (j := (1 : Int32)) (v := (.int be1)) (by decide) (by decide) rfl (hb hby d_prog_19_method_4_35) (pc' := 36) rfl ?_
      refine gIsub X10 hx (hb hby d_prog_19_method_4_36) (pc' := 37) rfl ?_
      exact gRetI X10 hx hlk hret (hb hby d_prog_19_method_4_37) (by decide) (by decide) (⟨_, rfl, e10, rfl, fun q => absurd q (by omega), fun _ => rfl⟩)
    · exact absurd c10 (by decide)
theorem ef_c_start_3 (m : MethodId) (a : Addr) (i : Int32) : entryFrame m #[(.ref a), (.int i)] 4 = mkF m 0 #[.val (.ref a), .val (.int i), .unset, .unset] [] := by first | (simp [entryFrame, mkF, argsToLocals, Value.category]; done) | rfl
set_option maxRecDepth 65536 in
set_option maxHeartbeats 40000000 in
theorem c_start_3 (l : Launch) (Z : State) (a0 : Array Value) (hw : ∀ d ∈ tables_1, d.before a0 Z = true) (a x y : Addr) (ck cy : ClassId) (i be1 be2 t0 sv1 sv2 : Int32) (h0 : Heap) (hi : 0 ≤ i.toInt) (hbe1 : 0 < be1.toInt) (hbe2 : be1.toInt < be2.toInt) (F1 : Fld Z h0 a "com/example/clausewright/clausewright/layout/Block" "blockStarts" "[I" (.ref x)) (F2 : Fld Z h0 a "com/example/clausewright/clausewright/layout/Block" "textStarts" "[I" (.ref y)) (A : Arv Z h0 x ck .int 3 [(.int (0 : Int32)), (.int be1), (.int be2)] (.int 0)) (B : Arv Z h0 y cy .int 3 [(.int t0), (.int sv1), (.int sv2)] (.int 0)) :
    Ctr l Z (⟨"com/example/clausewright/clausewright/layout/Block", "start", "(I)I"⟩ : MethodName) prog_19_method_4_code 4 (some .int) [] ({ frames := 2, cells := 0, slots := 0, locals := 32 } : Room) #[(.ref a), (.int i)] h0 (fun v h L => ∃ r : Int32, v = some (.int r) ∧ h = h0 ∧ L = [] ∧ (i.toInt < be1.toInt → r = t0 + i - (0 : Int32)) ∧ (be1.toInt ≤ i.toInt ∧ i.toInt < be2.toInt → r = sv1 + i - be1) ∧ (be2.toInt ≤ i.toInt → r = sv2 + i - be2)) := by
  refine Ctr.of (plainFor_of_name pn_0) ?_
  intro p e s m below meth c s₁ hx hby hml hret hown hnm hZ hlk X0 e0
  refine Goes.cast (ef_c_start_3 m a i) ?_
  refine gLoadAN X0 hx (hb hby d_prog_19_method_4_0) (pc' := 1) rfl rfl rfl ?_
  refine gGetF X0 hx hZ hown (hw _ (List.mem_of_getElem? (i := 24) rfl)) Via.refl e0 F1 (hb hby d_prog_19_method_4_1) (pc' := 4) rfl (fun T1 X1 e1 => ?_)
  refine gLoadIN X1 hx (hb hby d_prog_19_method_4_4) (pc' := 5) rfl rfl ?_
  refine gCallS X1 hx hZ (y := (⟨"java/util/Arrays", "binarySearch", "([II)I"⟩ : MethodName)) hown e1 (by rw [hml]; rfl) (hw _ (List.mem_of_getElem? (i := 33) rfl)) (hw _ (List.mem_of_getElem? (i := 34) rfl)) (hw _ (List.mem_of_getElem? (i := 35) rfl)) (hw _ (List.mem_of_getElem? (i := 36) rfl)) (by decide) (argsL := [(.ref x), (.int i)]) (st := []) (c_bs_3 l Z a0 hw x ck i be1 be2 h0 hi hbe1 hbe2 A) (lenOf pd_3 rfl) (hb hby d_prog_19_method_4_5) (pc' := 8) rfl rfl (by decide) (W := 0) (Nat.le_of_eq rfl) (by decide) (by decide) (by decide) ?_
  intro T2 v2 L2 X2 hQ2
  obtain ⟨r, rfl, eq2, rfl, hr⟩ := hQ2
  rw [List.append_nil] at X2
  rcases hr with ⟨hr | hr, hc⟩ | ⟨hr | hr, hc⟩ | ⟨hr | hr, hc⟩
  · obtain rfl := own_lit (0) hr
    refine gStoreIN X2 hx (hb hby d_prog_19_method_4_8) (l' := #[.val (.ref a), .val (.int i), .val (.int (0 : Int32)), .unset]) (pc' := 9) rfl rfl ?_
    refine gLoadIN X2 hx (hb hby d_prog_19_method_4_9) (pc' := 10) rfl rfl ?_
    refine gIfLt X2 hx (hb hby d_prog_19_method_4_10) (pc' := 17) (by decide) (by decide) (pn := 13) rfl (fun (c10 : (0 : Int) < (0 : Int)) => ?_) (fun (c10 : (0 : Int) ≤ (0 : Int)) => ?_)
    · exact absurd c10 (by decide)
    · refine gLoadIN X2 hx (hb hby d_prog_19_method_4_13) (pc' := 14) rfl rfl ?_
      refine gGoto X2 hx (hb hby d_prog_19_method_4_14) (pc' := 21) (by decide) (by decide) ?_
      refine gStoreIN X2 hx (hb hby d_prog_19_method_4_21) (l' := #[.val (.ref a), .val (.int i), .val (.int (0 : Int32)), .val (.int (0 : Int32))]) (pc' := 22) rfl rfl ?_
      refine gLoadAN X2 hx (hb hby d_prog_19_method_4_22) (pc' := 23) rfl rfl rfl ?_
      refine gGetF X2 hx hZ hown (hw _ (List.mem_of_getElem? (i := 26) rfl)) Via.refl eq2 F2 (hb hby d_prog_19_method_4_23) (pc' := 26) rfl (fun T3 X3 e3 => ?_)
      refine gLoadIN X3 hx (hb hby d_prog_19_method_4_26) (pc' := 27) rfl rfl ?_
      refine gIaload X3 hx hZ e3 B (j := (0 : Int32)) (v := (.int t0)) (by decide) (by decide) rfl (hb hby d_prog_19_method_4_27) (pc' := 28) rfl ?_
      refine gLoadIN X3 hx (hb hby d_prog_19_method_4_28) (pc' := 29) rfl rfl ?_
      refine gIadd X3 hx (hb hby d_prog_19_method_4_29) (pc' := 30) rfl ?_
      refine gLoadAN X3 hx (hb hby d_prog_19_method_4_30) (pc' := 31) rfl rfl rfl ?_
      refine gGetF X3 hx hZ hown (hw _ (List.mem_of_getElem? (i := 24) rfl)) Via.refl e3 F1 (hb hby d_prog_19_method_4_31) (pc' := 34) rfl (fun T4 X4 e4 => ?_)
      refine gLoadIN X4 hx (hb hby d_prog_19_method_4_34) (pc' := 35) rfl rfl ?_
      refine gIaload X4 hx hZ e4 A (j := (0 : Int32)) (v := (.int (0 : Int32))) (by decide) (by decide) rfl (hb hby d_prog_19_method_4_35) (pc' := 36) rfl ?_
      refine gIsub X4 hx (hb hby d_prog_19_method_4_36) (pc' := 37) rfl ?_
      exact gRetI X4 hx hlk hret (hb hby d_prog_19_method_4_37) (by decide) (by decide) (⟨_, rfl, e4, rfl, fun _ => rfl, fun q => absurd q (by omega), fun q => absurd q (by omega)⟩)
  · obtain rfl := own_lit (-2) hr
    refine gStoreIN X2 hx (hb hby d_prog_19_method_4_8) (l' := #[.val (.ref a), .val (.int i), .val (.int (-2 : Int32)), .unset]) (pc' := 9) rfl rfl ?_
    refine gLoadIN X2 hx (hb hby d_prog_19_method_4_9) (pc' := 10) rfl rfl ?_
    refine gIfLt X2 hx (hb hby d_prog_19_method_4_10) (pc' := 17) (by decide) (by decide) (pn := 13) rfl (fun (c10 : (-2 : Int) < (0 : Int)) => ?_) (fun (c10 : (0 : Int) ≤ (-2 : Int)) => ?_)
    · refine gLoadIN X2 hx (hb hby d_prog_19_method_4_17) (pc' := 18) rfl rfl ?_
      refine gIneg X2 hx (hb hby d_prog_19_method_4_18) (pc' := 19) rfl ?_
      show Goes p e below _ T2 (mkF m 19 #[.val (.ref a), .val (.int i), .val (.int (-2 : Int32)), .unset] [(.int (2 : Int32))])
      refine gIconst X2 hx (v := (2 : Int32)) (hb hby d_prog_19_method_4_19) (pc' := 20) rfl rfl ?_
      refine gIsub X2 hx (hb hby d_prog_19_method_4_20) (pc' := 21) rfl ?_
      show Goes p e below _ T2 (mkF m 21 #[.val (.ref a), .val (.int i), .val (.int (-2 : Int32)), .unset] [(.int (0 : Int32))])
      refine gStoreIN X2 hx (hb hby d_prog_19_method_4_21) (l' := #[.val (.ref a), .val (.int i), .val (.int (-2 : Int32)), .val (.int (0 : Int32))]) (pc' := 22) rfl rfl ?_
      refine gLoadAN X2 hx (hb hby d_prog_19_method_4_22) (pc' := 23) rfl rfl rfl ?_
      refine gGetF X2 hx hZ hown (hw _ (List.mem_of_getElem? (i := 26) rfl)) Via.refl eq2 F2 (hb hby d_prog_19_method_4_23) (pc' := 26) rfl (fun T5 X5 e5 => ?_)
      refine gLoadIN X5 hx (hb hby d_prog_19_method_4_26) (pc' := 27) rfl rfl ?_
      refine gIaload X5 hx hZ e5 B (j := (0 : Int32)) (v := (.int t0)) (by decide) (by decide) rfl (hb hby d_prog_19_method_4_27) (pc' := 28) rfl ?_
      refine gLoadIN X5 hx (hb hby d_prog_19_method_4_28) (pc' := 29) rfl rfl ?_
      refine gIadd X5 hx (hb hby d_prog_19_method_4_29) (pc' := 30) rfl ?_
      refine gLoadAN X5 hx (hb hby d_prog_19_method_4_30) (pc' := 31) rfl rfl rfl ?_
      refine gGetF X5 hx hZ hown (hw _ (List.mem_of_getElem? (i := 24) rfl)) Via.refl e5 F1 (hb hby d_prog_19_method_4_31) (pc' := 34) rfl (fun T6 X6 e6 => ?_)
      refine gLoadIN X6 hx (hb hby d_prog_19_method_4_34) (pc' := 35) rfl rfl ?_
      refine gIaload X6 hx hZ e6 A (j := (0 : Int32)) (v := (.int (0 : Int32))) (by decide) (by decide) rfl (hb hby d_prog_19_method_4_35) (pc' := 36) rfl ?_
      refine gIsub X6 hx (hb hby d_prog_19_method_4_36) (pc' := 37) rfl ?_
      exact gRetI X6 hx hlk hret (hb hby d_prog_19_method_4_37) (by decide) (by decide) (⟨_, rfl, e6, rfl, fun _ => rfl, fun q => absurd q (by omega), fun q => absurd q (by omega)⟩)
    · exact absurd c10 (by decide)
  · obtain rfl := own_lit (1) hr
    refine gStoreIN X2 hx (hb hby d_prog_19_method_4_8) (l' := #[.val (.ref a), .val (.int i), .val (.int (1 : Int32)), .unset]) (pc' := 9) rfl rfl ?_
    refine gLoadIN X2 hx (hb hby d_prog_19_method_4_9) (pc' := 10) rfl rfl ?_
    refine gIfLt X2 hx (hb hby d_prog_19_method_4_10) (pc' := 17) (by decide) (by decide) (pn := 13) rfl (fun (c10 : (1 : Int) < (0 : Int)) => ?_) (fun (c10 : (0 : Int) ≤ (1 : Int)) => ?_)
    · exact absurd c10 (by decide)
    · refine gLoadIN X2 hx (hb hby d_prog_19_method_4_13) (pc' := 14) rfl rfl ?_
      refine gGoto X2 hx (hb hby d_prog_19_method_4_14) (pc' := 21) (by decide) (by decide) ?_
      refine gStoreIN X2 hx (hb hby d_prog_19_method_4_21) (l' := #[.val (.ref a), .val (.int i), .val (.int (1 : Int32)), .val (.int (1 : Int32))]) (pc' := 22) rfl rfl ?_
      refine gLoadAN X2 hx (hb hby d_prog_19_method_4_22) (pc' := 23) rfl rfl rfl ?_
      refine gGetF X2 hx hZ hown (hw _ (List.mem_of_getElem? (i := 26) rfl)) Via.refl eq2 F2 (hb hby d_prog_19_method_4_23) (pc' := 26) rfl (fun T7 X7 e7 => ?_)
      refine gLoadIN X7 hx (hb hby d_prog_19_method_4_26) (pc' := 27) rfl rfl ?_
      refine gIaload X7 hx hZ e7 B (j := (1 : Int32)) (v := (.int sv1)) (by decide) (by decide) rfl (hb hby d_prog_19_method_4_27) (pc' := 28) rfl ?_
      refine gLoadIN X7 hx (hb hby d_prog_19_method_4_28) (pc' := 29) rfl rfl ?_
      refine gIadd X7 hx (hb hby d_prog_19_method_4_29) (pc' := 30) rfl ?_
      refine gLoadAN X7 hx (hb hby d_prog_19_method_4_30) (pc' := 31) rfl rfl rfl ?_
      refine gGetF X7 hx hZ hown (hw _ (List.mem_of_getElem? (i := 24) rfl)) Via.refl e7 F1 (hb hby d_prog_19_method_4_31) (pc' := 34) rfl (fun T8 X8 e8 => ?_)
      refine gLoadIN X8 hx (hb hby d_prog_19_method_4_34) (pc' := 35) rfl rfl ?_
      refine gIaload X8 hx hZ e8 A (j := (1 : Int32)) (v := (.int be1)) (by decide) (by decide) rfl (hb hby d_prog_19_method_4_35) (pc' := 36) rfl ?_
      refine gIsub X8 hx (hb hby d_prog_19_method_4_36) (pc' := 37) rfl ?_
      exact gRetI X8 hx hlk hret (hb hby d_prog_19_method_4_37) (by decide) (by decide) (⟨_, rfl, e8, rfl, fun q => absurd q (by omega), fun _ => rfl, fun q => absurd q (by omega)⟩)
  · obtain rfl := own_lit (-3) hr
    refine gStoreIN X2 hx (hb hby d_prog_19_method_4_8) (l' := #[.val (.ref a), .val (.int i), .val (.int (-3 : Int32)), .unset]) (pc' := 9) rfl rfl ?_
    refine gLoadIN X2 hx (hb hby d_prog_19_method_4_9) (pc' := 10) rfl rfl ?_
    refine gIfLt X2 hx (hb hby d_prog_19_method_4_10) (pc' := 17) (by decide) (by decide) (pn := 13) rfl (fun (c10 : (-3 : Int) < (0 : Int)) => ?_) (fun (c10 : (0 : Int) ≤ (-3 : Int)) => ?_)
    · refine gLoadIN X2 hx (hb hby d_prog_19_method_4_17) (pc' := 18) rfl rfl ?_
      refine gIneg X2 hx (hb hby d_prog_19_method_4_18) (pc' := 19) rfl ?_
      show Goes p e below _ T2 (mkF m 19 #[.val (.ref a), .val (.int i), .val (.int (-3 : Int32)), .unset] [(.int (3 : Int32))])
      refine gIconst X2 hx (v := (2 : Int32)) (hb hby d_prog_19_method_4_19) (pc' := 20) rfl rfl ?_
      refine gIsub X2 hx (hb hby d_prog_19_method_4_20) (pc' := 21) rfl ?_
      show Goes p e below _ T2 (mkF m 21 #[.val (.ref a), .val (.int i), .val (.int (-3 : Int32)), .unset] [(.int (1 : Int32))])
      refine gStoreIN X2 hx (hb hby d_prog_19_method_4_21) (l' := #[.val (.ref a), .val (.int i), .val (.int (-3 : Int32)), .val (.int (1 : Int32))]) (pc' := 22) rfl rfl ?_
      refine gLoadAN X2 hx (hb hby d_prog_19_method_4_22) (pc' := 23) rfl rfl rfl ?_
      refine gGetF X2 hx hZ hown (hw _ (List.mem_of_getElem? (i := 26) rfl)) Via.refl eq2 F2 (hb hby d_prog_19_method_4_23) (pc' := 26) rfl (fun T9 X9 e9 => ?_)
      refine gLoadIN X9 hx (hb hby d_prog_19_method_4_26) (pc' := 27) rfl rfl ?_
      refine gIaload X9 hx hZ e9 B (j := (1 : Int32)) (v := (.int sv1)) (by decide) (by decide) rfl (hb hby d_prog_19_method_4_27) (pc' := 28) rfl ?_
      refine gLoadIN X9 hx (hb hby d_prog_19_method_4_28) (pc' := 29) rfl rfl ?_
      refine gIadd X9 hx (hb hby d_prog_19_method_4_29) (pc' := 30) rfl ?_
      refine gLoadAN X9 hx (hb hby d_prog_19_method_4_30) (pc' := 31) rfl rfl rfl ?_
      refine gGetF X9 hx hZ hown (hw _ (List.mem_of_getElem? (i := 24) rfl)) Via.refl e9 F1 (hb hby d_prog_19_method_4_31) (pc' := 34) rfl (fun T10 X10 e10 => ?_)
      refine gLoadIN X10 hx (hb hby d_prog_19_method_4_34) (pc' := 35) rfl rfl ?_
      refine gIaload X10 hx hZ e10 A (j := (1 : Int32)) (v := (.int be1)) (by decide) (by decide) rfl (hb hby d_prog_19_method_4_35) (pc' := 36) rfl ?_
      refine gIsub X10 hx (hb hby d_prog_19_method_4_36) (pc' := 37) rfl ?_
      exact gRetI X10 hx hlk hret (hb hby d_prog_19_method_4_37) (by decide) (by decide) (⟨_, rfl, e10, rfl, fun q => absurd q (by omega), fun _ => rfl, fun q => absurd q (by omega)⟩)
    · exact absurd c10 (by decide)
  · obtain rfl := own_lit (2) hr
    refine gStoreIN X2 hx (hb hby d_prog_19_method_4_8) (l' := #[.val (.ref a), .val (.int i), .val (.int (2 : Int32)), .unset]) (pc' := 9) rfl rfl ?_
    refine gLoadIN X2 hx (hb hby d_prog_19_method_4_9) (pc' := 10) rfl rfl ?_
    refine gIfLt X2 hx (hb hby d_prog_19_method_4_10) (pc' := 17) (by decide) (by decide) (pn := 13) rfl (fun (c10 : (2 : Int) < (0 : Int)) => ?_) (fun (c10 : (0 : Int) ≤ (2 : Int)) => ?_)
    · exact absurd c10 (by decide)
    · refine gLoadIN X2 hx (hb hby d_prog_19_method_4_13) (pc' := 14) rfl rfl ?_
      refine gGoto X2 hx (hb hby d_prog_19_method_4_14) (pc' := 21) (by decide) (by decide) ?_
      refine gStoreIN X2 hx (hb hby d_prog_19_method_4_21) (l' := #[.val (.ref a), .val (.int i), .val (.int (2 : Int32)), .val (.int (2 : Int32))]) (pc' := 22) rfl rfl ?_
      refine gLoadAN X2 hx (hb hby d_prog_19_method_4_22) (pc' := 23) rfl rfl rfl ?_
      refine gGetF X2 hx hZ hown (hw _ (List.mem_of_getElem? (i := 26) rfl)) Via.refl eq2 F2 (hb hby d_prog_19_method_4_23) (pc' := 26) rfl (fun T11 X11 e11 => ?_)
      refine gLoadIN X11 hx (hb hby d_prog_19_method_4_26) (pc' := 27) rfl rfl ?_
      refine gIaload X11 hx hZ e11 B (j := (2 : Int32)) (v := (.int sv2)) (by decide) (by decide) rfl (hb hby d_prog_19_method_4_27) (pc' := 28) rfl ?_
      refine gLoadIN X11 hx (hb hby d_prog_19_method_4_28) (pc' := 29) rfl rfl ?_
      refine gIadd X11 hx (hb hby d_prog_19_method_4_29) (pc' := 30) rfl ?_
      refine gLoadAN X11 hx (hb hby d_prog_19_method_4_30) (pc' := 31) rfl rfl rfl ?_
      refine gGetF X11 hx hZ hown (hw _ (List.mem_of_getElem? (i := 24) rfl)) Via.refl e11 F1 (hb hby d_prog_19_method_4_31) (pc' := 34) rfl (fun T12 X12 e12 => ?_)
      refine gLoadIN X12 hx (hb hby d_prog_19_method_4_34) (pc' := 35) rfl rfl ?_
      refine gIaload X12 hx hZ e12 A (j := (2 : Int32)) (v := (.int be2)) (by decide) (by decide) rfl (hb hby d_prog_19_method_4_35) (pc' := 36) rfl ?_
      refine gIsub X12 hx (hb hby d_prog_19_method_4_36) (pc' := 37) rfl ?_
      exact gRetI X12 hx hlk hret (hb hby d_prog_19_method_4_37) (by decide) (by decide) (⟨_, rfl, e12, rfl, fun q => absurd q (by omega), fun q => absurd q (by omega), fun _ => rfl⟩)
  · obtain rfl := own_lit (-4) hr
    refine gStoreIN X2 hx (hb hby d_prog_19_method_4_8) (l' := #[.val (.ref a), .val (.int i), .val (.int (-4 : Int32)), .unset]) (pc' := 9) rfl rfl ?_
    refine gLoadIN X2 hx (hb hby d_prog_19_method_4_9) (pc' := 10) rfl rfl ?_
    refine gIfLt X2 hx (hb hby d_prog_19_method_4_10) (pc' := 17) (by decide) (by decide) (pn := 13) rfl (fun (c10 : (-4 : Int) < (0 : Int)) => ?_) (fun (c10 : (0 : Int) ≤ (-4 : Int)) => ?_)
    · refine gLoadIN X2 hx (hb hby d_prog_19_method_4_17) (pc' := 18) rfl rfl ?_
      refine gIneg X2 hx (hb hby d_prog_19_method_4_18) (pc' := 19) rfl ?_
      show Goes p e below _ T2 (mkF m 19 #[.val (.ref a), .val (.int i), .val (.int (-4 : Int32)), .unset] [(.int (4 : Int32))])
      refine gIconst X2 hx (v := (2 : Int32)) (hb hby d_prog_19_method_4_19) (pc' := 20) rfl rfl ?_
      refine gIsub X2 hx (hb hby d_prog_19_method_4_20) (pc' := 21) rfl ?_
      show Goes p e below _ T2 (mkF m 21 #[.val (.ref a), .val (.int i), .val (.int (-4 : Int32)), .unset] [(.int (2 : Int32))])
      refine gStoreIN X2 hx (hb hby d_prog_19_method_4_21) (l' := #[.val (.ref a), .val (.int i), .val (.int (-4 : Int32)), .val (.int (2 : Int32))]) (pc' := 22) rfl rfl ?_
      refine gLoadAN X2 hx (hb hby d_prog_19_method_4_22) (pc' := 23) rfl rfl rfl ?_
      refine gGetF X2 hx hZ hown (hw _ (List.mem_of_getElem? (i := 26) rfl)) Via.refl eq2 F2 (hb hby d_prog_19_method_4_23) (pc' := 26) rfl (fun T13 X13 e13 => ?_)
      refine gLoadIN X13 hx (hb hby d_prog_19_method_4_26) (pc' := 27) rfl rfl ?_
      refine gIaload X13 hx hZ e13 B (j := (2 : Int32)) (v := (.int sv2)) (by decide) (by decide) rfl (hb hby d_prog_19_method_4_27) (pc' := 28) rfl ?_
      refine gLoadIN X13 hx (hb hby d_prog_19_method_4_28) (pc' := 29) rfl rfl ?_
      refine gIadd X13 hx (hb hby d_prog_19_method_4_29) (pc' := 30) rfl ?_
      refine gLoadAN X13 hx (hb hby d_prog_19_method_4_30) (pc' := 31) rfl rfl rfl ?_
      refine gGetF X13 hx hZ hown (hw _ (List.mem_of_getElem? (i := 24) rfl)) Via.refl e13 F1 (hb hby d_prog_19_method_4_31) (pc' := 34) rfl (fun T14 X14 e14 => ?_)
      refine gLoadIN X14 hx (hb hby d_prog_19_method_4_34) (pc' := 35) rfl rfl ?_
      refine gIaload X14 hx hZ e14 A (j := (2 : Int32)) (v := (.int be2)) (by decide) (by decide) rfl (hb hby d_prog_19_method_4_35) (pc' := 36) rfl ?_
      refine gIsub X14 hx (hb hby d_prog_19_method_4_36) (pc' := 37) rfl ?_
      exact gRetI X14 hx hlk hret (hb hby d_prog_19_method_4_37) (by decide) (by decide) (⟨_, rfl, e14, rfl, fun q => absurd q (by omega), fun q => absurd q (by omega), fun _ => rfl⟩)
    · exact absurd c10 (by decide)
def Qi (Z : State) (a x y : Addr) (h0 : Heap) (n0 : Nat) (v : Option Value) (h : Heap) (L : List Loc) : Prop := v = none ∧ Fr n0 L ∧ Keep h0 h [a] ∧ Exa Z h a "com/example/clausewright/clausewright/layout/Block" ∧ Fld Z h a "com/example/clausewright/clausewright/layout/Block" "blockStarts" "[I" (.ref x) ∧ Fld Z h a "com/example/clausewright/clausewright/layout/Block" "textStarts" "[I" (.ref y)
theorem d_prog_19_method_1_0 : decode prog_19_method_1_code 0 = .ok (.aload_n 0, 1) := by decide +kernel
theorem d_prog_19_method_1_1 : decode prog_19_method_1_code 1 = .ok (.invokespecial 1, 3) := by decide +kernel
theorem d_prog_19_method_1_4 : decode prog_19_method_1_code 4 = .ok (.aload_n 0, 1) := by decide +kernel
theorem d_prog_19_method_1_5 : decode prog_19_method_1_code 5 = .ok (.aload_n 1, 1) := by decide +kernel
theorem d_prog_19_method_1_6 : decode prog_19_method_1_code 6 = .ok (.putfield 7, 3) := by decide +kernel
theorem d_prog_19_method_1_9 : decode prog_19_method_1_code 9 = .ok (.aload_n 0, 1) := by decide +kernel
theorem d_prog_19_method_1_10 : decode prog_19_method_1_code 10 = .ok (.iload_n 2, 1) := by decide +kernel
theorem d_prog_19_method_1_11 : decode prog_19_method_1_code 11 = .ok (.putfield 13, 3) := by decide +kernel
theorem d_prog_19_method_1_14 : decode prog_19_method_1_code 14 = .ok (.aload_n 0, 1) := by decide +kernel
theorem d_prog_19_method_1_15 : decode prog_19_method_1_code 15 = .ok (.aload_n 3, 1) := by decide +kernel
theorem d_prog_19_method_1_16 : decode prog_19_method_1_code 16 = .ok (.putfield 17, 3) := by decide +kernel
theorem d_prog_19_method_1_19 : decode prog_19_method_1_code 19 = .ok (.aload_n 0, 1) := by decide +kernel
theorem d_prog_19_method_1_20 : decode prog_19_method_1_code 20 = .ok (.aload 4, 2) := by decide +kernel
theorem d_prog_19_method_1_22 : decode prog_19_method_1_code 22 = .ok (.putfield 21, 3) := by decide +kernel
theorem d_prog_19_method_1_25 : decode prog_19_method_1_code 25 = .ok (.return_, 1) := by decide +kernel
theorem ef_c_init (m : MethodId) (a : Addr) (q : Addr) (p2 : Int32) (x : Addr) (y : Addr) : entryFrame m #[(.ref a), (.ref q), (.int p2), (.ref x), (.ref y)] 5 = mkF m 0 #[.val (.ref a), .val (.ref q), .val (.int p2), .val (.ref x), .val (.ref y)] [] := by first | (simp [entryFrame, mkF, argsToLocals, Value.category]; done) | rfl
set_option maxRecDepth 65536 in
set_option maxHeartbeats 40000000 in
theorem c_init (l : Launch) (Z : State) (a0 : Array Value) (hw : ∀ d ∈ tables_1, d.before a0 Z = true) (a q x y : Addr) (p2 : Int32) (u1 u3 u4 : Value) (u2 : Int32) (n0 : Nat) (h0 : Heap) (ga : n0 ≤ a) (E1 : Exa Z h0 a "com/example/clausewright/clausewright/layout/Block") (F1 : Fld Z h0 a "com/example/clausewright/clausewright/layout/Block" "text" "Ljava/lang/String;" u1) (F2 : Fld Z h0 a "com/example/clausewright/clausewright/layout/Block" "line" "I" (.int u2)) (F3 : Fld Z h0 a "com/example/clausewright/clausewright/layout/Block" "blockStarts" "[I" u3) (F4 : Fld Z h0 a "com/example/clausewright/clausewright/layout/Block" "textStarts" "[I" u4) :
    Ctr l Z (⟨"com/example/clausewright/clausewright/layout/Block", "<init>", "(Ljava/lang/String;I[I[I)V"⟩ : MethodName) prog_19_method_1_code 5 none [] ({ frames := 1, cells := 0, slots := 0, locals := 12 } : Room) #[(.ref a), (.ref q), (.int p2), (.ref x), (.ref y)] h0 (Qi Z a x y h0 n0) := by
  refine Ctr.of (plainFor_of_name pn_0) ?_
  intro p e s m below meth c s₁ hx hby hml hret hown hnm hZ hlk X0 e0
  refine Goes.cast (ef_c_init m a q p2 x y) ?_
  refine gLoadAN X0 hx (hb hby d_prog_19_method_1_0) (pc' := 1) rfl rfl rfl ?_
  refine gInitO X0 hx hZ hown (hw _ (List.mem_of_getElem? (i := 17) rfl)) (hw _ (List.mem_of_getElem? (i := 18) rfl)) (hw _ (List.mem_of_getElem? (i := 19) rfl)) e0 (by rw [hml]; rfl) (hb hby d_prog_19_method_1_1) (pc' := 4) rfl (by decide) (W := 0) (Nat.le_of_eq rfl) (by decide) (fun T1 X1 e1 => ?_)
  refine gLoadAN X1 hx (hb hby d_prog_19_method_1_4) (pc' := 5) rfl rfl rfl ?_
  refine gLoadAN X1 hx (hb hby d_prog_19_method_1_5) (pc' := 6) rfl rfl rfl ?_
  refine gPutF X1 hx hZ hown (hw _ (List.mem_of_getElem? (i := 20) rfl)) Via.refl e1 F1 E1 (Or.inr ⟨(hw _ (List.mem_of_getElem? (i := 21) rfl)), rfl, hnm⟩) (hw _ (List.mem_of_getElem? (i := 4) rfl)) (ty := (.object "java/lang/String")) (by decide) rfl rfl (hb hby d_prog_19_method_1_6) (pc' := 9) rfl (fun T2 h2 X2 e2 W2 => ?_)
  have f2_0 := E1.wr W2
  have f2_1 := F1.same W2
  have f2_2 := F2.other W2 (Or.inr (slot_ne (Or.inr (hw _ (List.mem_of_getElem? (i := 23) rfl))) (Or.inr (hw _ (List.mem_of_getElem? (i := 21) rfl))) (by decide) (t := .int) (t' := (.object "java/lang/String")) (by decide) (by decide)))
  have f2_3 := F3.other W2 (Or.inr (slot_ne (Or.inr (hw _ (List.mem_of_getElem? (i := 25) rfl))) (Or.inr (hw _ (List.mem_of_getElem? (i := 21) rfl))) (by decide) (t := (.array .int)) (t' := (.object "java/lang/String")) (by decide) (by decide)))
  have f2_4 := F4.other W2 (Or.inr (slot_ne (Or.inr (hw _ (List.mem_of_getElem? (i := 27) rfl))) (Or.inr (hw _ (List.mem_of_getElem? (i := 21) rfl))) (by decide) (t := (.array .int)) (t' := (.object "java/lang/String")) (by decide) (by decide)))
  have zs2 : h0.size ≤ h2.size := by rw [W2.size]; exact (Nat.le_refl _)
  have N2 := Fr.snoc X2 (Fr.nil n0) ga
  have K2 : Keep h0 h2 [a] := (Keep.refl h0 [a]).wr W2 (Or.inl (by simp))
  refine gLoadAN X2 hx (hb hby d_prog_19_method_1_9) (pc' := 10) rfl rfl rfl ?_
  refine gLoadIN X2 hx (hb hby d_prog_19_method_1_10) (pc' := 11) rfl rfl ?_
  refine gPutF X2 hx hZ hown (hw _ (List.mem_of_getElem? (i := 22) rfl)) Via.refl e2 f2_2 f2_0 (Or.inr ⟨(hw _ (List.mem_of_getElem? (i := 23) rfl)), rfl, hnm⟩) (hw _ (List.mem_of_getElem? (i := 4) rfl)) (ty := .int) (by decide) rfl rfl (hb hby d_prog_19_method_1_11) (pc' := 14) rfl (fun T3 h3 X3 e3 W3 => ?_)
  have f3_0 := f2_0.wr W3
  have f3_1 := f2_1.other W3 (Or.inr (slot_ne (Or.inr (hw _ (List.mem_of_getElem? (i := 21) rfl))) (Or.inr (hw _ (List.mem_of_getElem? (i := 23) rfl))) (by decide) (t := (.object "java/lang/String")) (t' := .int) (by decide) (by decide)))
  have f3_2 := f2_2.same W3
  have f3_3 := f2_3.other W3 (Or.inr (slot_ne (Or.inr (hw _ (List.mem_of_getElem? (i := 25) rfl))) (Or.inr (hw _ (List.mem_of_getElem? (i := 23) rfl))) (by decide) (t := (.array .int)) (t' := .int) (by decide) (by decide)))
  have f3_4 := f2_4.other W3 (Or.inr (slot_ne (Or.inr (hw _ (List.mem_of_getElem? (i := 27) rfl))) (Or.inr (hw _ (List.mem_of_getElem? (i := 23) rfl))) (by decide) (t := (.array .int)) (t' := .int) (by decide) (by decide)))
  have zs3 : h0.size ≤ h3.size := by rw [W3.size]; exact zs2
  have N3 := Fr.snoc X3 N2 ga
  have K3 : Keep h0 h3 [a] := K2.wr W3 (Or.inl (by simp))
  refine gLoadAN X3 hx (hb hby d_prog_19_method_1_14) (pc' := 15) rfl rfl rfl ?_
  refine gLoadAN X3 hx (hb hby d_prog_19_method_1_15) (pc' := 16) rfl rfl rfl ?_
  refine gPutF X3 hx hZ hown (hw _ (List.mem_of_getElem? (i := 24) rfl)) Via.refl e3 f3_3 f3_0 (Or.inr ⟨(hw _ (List.mem_of_getElem? (i := 25) rfl)), rfl, hnm⟩) (hw _ (List.mem_of_getElem? (i := 4) rfl)) (ty := (.array .int)) (by decide) rfl rfl (hb hby d_prog_19_method_1_16) (pc' := 19) rfl (fun T4 h4 X4 e4 W4 => ?_)
  have f4_0 := f3_0.wr W4
  have f4_1 := f3_1.other W4 (Or.inr (slot_ne (Or.inr (hw _ (List.mem_of_getElem? (i := 21) rfl))) (Or.inr (hw _ (List.mem_of_getElem? (i := 25) rfl))) (by decide) (t := (.object "java/lang/String")) (t' := (.array .int)) (by decide) (by decide)))
  have f4_2 := f3_2.other W4 (Or.inr (slot_ne (Or.inr (hw _ (List.mem_of_getElem? (i := 23) rfl))) (Or.inr (hw _ (List.mem_of_getElem? (i := 25) rfl))) (by decide) (t := .int) (t' := (.array .int)) (by decide) (by decide)))
  have f4_3 := f3_3.same W4
  have f4_4 := f3_4.other W4 (Or.inr (slot_ne (Or.inr (hw _ (List.mem_of_getElem? (i := 27) rfl))) (Or.inr (hw _ (List.mem_of_getElem? (i := 25) rfl))) (by decide) (t := (.array .int)) (t' := (.array .int)) (by decide) (by decide)))
  have zs4 : h0.size ≤ h4.size := by rw [W4.size]; exact zs3
  have N4 := Fr.snoc X4 N3 ga
  have K4 : Keep h0 h4 [a] := K3.wr W4 (Or.inl (by simp))
  refine gLoadAN X4 hx (hb hby d_prog_19_method_1_19) (pc' := 20) rfl rfl rfl ?_
  refine gLoadA X4 hx (hb hby d_prog_19_method_1_20) (pc' := 22) rfl rfl rfl ?_
  refine gPutF X4 hx hZ hown (hw _ (List.mem_of_getElem? (i := 26) rfl)) Via.refl e4 f4_4 f4_0 (Or.inr ⟨(hw _ (List.mem_of_getElem? (i := 27) rfl)), rfl, hnm⟩) (hw _ (List.mem_of_getElem? (i := 4) rfl)) (ty := (.array .int)) (by decide) rfl rfl (hb hby d_prog_19_method_1_22) (pc' := 25) rfl (fun T5 h5 X5 e5 W5 => ?_)
  have f5_0 := f4_0.wr W5
  have f5_1 := f4_1.other W5 (Or.inr (slot_ne (Or.inr (hw _ (List.mem_of_getElem? (i := 21) rfl))) (Or.inr (hw _ (List.mem_of_getElem? (i := 27) rfl))) (by decide) (t := (.object "java/lang/String")) (t' := (.array .int)) (by decide) (by decide)))
  have f5_2 := f4_2.other W5 (Or.inr (slot_ne (Or.inr (hw _ (List.mem_of_getElem? (i := 23) rfl))) (Or.inr (hw _ (List.mem_of_getElem? (i := 27) rfl))) (by decide) (t := .int) (t' := (.array .int)) (by decide) (by decide)))
  have f5_3 := f4_3.other W5 (Or.inr (slot_ne (Or.inr (hw _ (List.mem_of_getElem? (i := 25) rfl))) (Or.inr (hw _ (List.mem_of_getElem? (i := 27) rfl))) (by decide) (t := (.array .int)) (t' := (.array .int)) (by decide) (by decide)))
  have f5_4 := f4_4.same W5
  have zs5 : h0.size ≤ h5.size := by rw [W5.size]; exact zs4
  have N5 := Fr.snoc X5 N4 ga
  have K5 : Keep h0 h5 [a] := K4.wr W5 (Or.inl (by simp))
  exact gRetV X5 hx hlk hret (hb hby d_prog_19_method_1_25) (by decide) (by decide) (⟨rfl, N5, by rw [e5]; exact K5, by rw [e5]; exact f5_0, by rw [e5]; exact f5_3, by rw [e5]; exact f5_4⟩)
theorem own_15 (x : Int32) : 0 ≤ (x &&& 15).toInt ∧ (x &&& 15).toInt ≤ 15 := by
  have e : (x &&& 15).toInt = x.toInt % 2 ^ 4 := Jvm.Kit.i32_mask x 15 (by decide) (by decide)
  omega
theorem own_asb (a b c : Int32) : a + b - c = a + (b - c) := by rw [Int32.sub_eq_add_neg, Int32.sub_eq_add_neg, Int32.add_assoc]
theorem own_n (x : Int32) : 1 ≤ ((1 : Int32) + (x &&& 2147483647) % 3).toInt ∧ ((1 : Int32) + (x &&& 2147483647) % 3).toInt ≤ 3 := by
  have e1 : (x &&& 2147483647).toInt = x.toInt % 2 ^ 31 := Jvm.Kit.i32_mask x 2147483647 (by decide) (by decide)
  have e2 : ((x &&& 2147483647) % 3).toInt = (x &&& 2147483647).toInt % 3 := Jvm.Kit.i32_rem_nonneg (by omega)
  have t1 : (1 : Int32).toInt = 1 := rfl
  rw [Jvm.Kit.i32_add (by omega) (by omega)]; omega
theorem own_idx (x len : Int32) (h : 0 ≤ len.toInt) (h2 : len.toInt ≤ 1000) : 0 ≤ ((x &&& 2147483647) % (len + 1)).toInt := by
  have e1 : (x &&& 2147483647).toInt = x.toInt % 2 ^ 31 := Jvm.Kit.i32_mask x 2147483647 (by decide) (by decide)
  have t1 : (1 : Int32).toInt = 1 := rfl
  have e3 : (len + 1).toInt = len.toInt + 1 := by rw [Jvm.Kit.i32_add (by omega) (by omega)]; omega
  rw [Jvm.Kit.i32_rem_nonneg (by omega), e3]; exact Int.emod_nonneg _ (by omega)
theorem pd_2 : parseMethodDescriptor "(Ljava/lang/String;I[I[I)V" = some ⟨[(.object "java/lang/String"), .int, (.array .int), (.array .int)], none⟩ := by decide +kernel
theorem pd_1 : parseMethodDescriptor "(I)I" = some ⟨[.int], some .int⟩ := by decide +kernel
theorem pn_1 : plainName "com/example/clausewright/clausewright/layout/BlockStartPinLaw" = true := by first | (simp [plainName, overriddenIn]; done) | decide +kernel
theorem ef_c_law (m : MethodId) (p0 : Int32) (p1 : Int32) (p2 : Int32) (p3 : Int32) (p4 : Int32) : entryFrame m #[(.int p0), (.int p1), (.int p2), (.int p3), (.int p4)] 22 = mkF m 0 #[.val (.int p0), .val (.int p1), .val (.int p2), .val (.int p3), .val (.int p4), .unset, .unset, .unset, .unset, .unset, .unset, .unset, .unset, .unset, .unset, .unset, .unset, .unset, .unset, .unset, .unset, .unset] [] := by first | (simp [entryFrame, mkF, argsToLocals, Value.category]; done) | rfl
set_option maxRecDepth 65536 in
set_option maxHeartbeats 40000000 in
theorem c_law (l : Launch) (Z : State) (a0 : Array Value) (hw : ∀ d ∈ tables_1, d.before a0 Z = true) (p0 p1 p2 p3 p4 : Int32) (h0 : Heap) (hEL : EW Z a0 []) :
    CtrH l Z [] [] x code maxLocals ret tables_1 room_1 #[(.int p0), (.int p1), (.int p2), (.int p3), (.int p4)] h0 (Law1 h0) := by
  refine CtrH.of (plainFor_of_name pn_1) ?_
  intro p e s m below meth c s₁ hx hby hml hret hown hnm hZ hlk X0 e0 hS H0 hSafe
  have wS : ∀ a ∈ Bundle.stringAtoms, a.before a0 Z = true := by
    intro d hd
    simp only [Bundle.stringAtoms, Bundle.sN, List.mem_cons, List.not_mem_nil, or_false] at hd
    rcases hd with rfl | rfl | rfl | rfl | rfl | rfl | rfl
    · exact (hw _ (List.mem_of_getElem? (i := 7) rfl))
    · exact (hw _ (List.mem_of_getElem? (i := 8) rfl))
    · exact (hw _ (List.mem_of_getElem? (i := 9) rfl))
    · exact (hw _ (List.mem_of_getElem? (i := 10) rfl))
    · exact (hw _ (List.mem_of_getElem? (i := 11) rfl))
    · exact (hw _ (List.mem_of_getElem? (i := 12) rfl))
    · exact (hw _ (List.mem_of_getElem? (i := 13) rfl))
  replace hml : c.maxLocals = 22 := hml
  refine Goes.cast (ef_c_law m p0 p1 p2 p3 p4) ?_
  have t_1 : (1 : Int32).toInt = 1 := rfl
  refine gIconst X0 hx (v := (1 : Int32)) (hb hby at_0) (pc' := 1) rfl rfl ?_
  refine gLoadIN X0 hx (hb hby at_1) (pc' := 2) rfl rfl ?_
  refine gLdc X0 hx hZ hown (hw _ (List.mem_of_getElem? (i := 0) rfl)) (hb hby at_2) (pc' := 4) rfl ?_
  refine gIand X0 hx (hb hby at_4) (pc' := 5) rfl ?_
  refine gIconst X0 hx (v := (3 : Int32)) (hb hby at_5) (pc' := 6) rfl rfl ?_
  refine gIrem X0 hx (hb hby at_6) (pc' := 7) (by decide) rfl ?_
  refine gIadd X0 hx (hb hby at_7) (pc' := 8) rfl ?_
  generalize hg_n : ((1 : Int32) + ((p3 &&& (2147483647 : Int32)) % (3 : Int32))) = n
  have hn : 1 ≤ n.toInt ∧ n.toInt ≤ 3 := by rw [← hg_n]; exact own_n _
  refine gStoreI X0 hx (hb hby at_8) (l' := #[.val (.int p0), .val (.int p1), .val (.int p2), .val (.int p3), .val (.int p4), .val (.int n), .unset, .unset, .unset, .unset, .unset, .unset, .unset, .unset, .unset, .unset, .unset, .unset, .unset, .unset, .unset, .unset]) (pc' := 10) rfl rfl ?_
  refine gLoadIN X0 hx (hb hby at_10) (pc' := 11) rfl rfl ?_
  refine gBipush X0 hx (v := (15 : Int32)) (hb hby at_11) (pc' := 13) rfl rfl ?_
  refine gIand X0 hx (hb hby at_13) (pc' := 14) rfl ?_
  generalize hg_l0 : (p1 &&& (15 : Int32)) = l0
  have h_l0 : 0 ≤ l0.toInt ∧ l0.toInt ≤ 15 := by rw [← hg_l0]; exact own_15 _
  refine gStoreI X0 hx (hb hby at_14) (l' := #[.val (.int p0), .val (.int p1), .val (.int p2), .val (.int p3), .val (.int p4), .val (.int n), .val (.int l0), .unset, .unset, .unset, .unset, .unset, .unset, .unset, .unset, .unset, .unset, .unset, .unset, .unset, .unset, .unset]) (pc' := 16) rfl rfl ?_
  refine gLoadIN X0 hx (hb hby at_16) (pc' := 17) rfl rfl ?_
  refine gIconst X0 hx (v := (4 : Int32)) (hb hby at_17) (pc' := 18) rfl rfl ?_
  refine gIushr X0 hx (hb hby at_18) (pc' := 19) rfl ?_
  refine gBipush X0 hx (v := (15 : Int32)) (hb hby at_19) (pc' := 21) rfl rfl ?_
  refine gIand X0 hx (hb hby at_21) (pc' := 22) rfl ?_
  generalize hg_l1 : (((p1.toUInt32 >>> ((4 : Int32) &&& 31).toUInt32).toInt32) &&& (15 : Int32)) = l1
  have h_l1 : 0 ≤ l1.toInt ∧ l1.toInt ≤ 15 := by rw [← hg_l1]; exact own_15 _
  refine gStoreI X0 hx (hb hby at_22) (l' := #[.val (.int p0), .val (.int p1), .val (.int p2), .val (.int p3), .val (.int p4), .val (.int n), .val (.int l0), .val (.int l1), .unset, .unset, .unset, .unset, .unset, .unset, .unset, .unset, .unset, .unset, .unset, .unset, .unset, .unset]) (pc' := 24) rfl rfl ?_
  refine gLoadIN X0 hx (hb hby at_24) (pc' := 25) rfl rfl ?_
  refine gBipush X0 hx (v := (8 : Int32)) (hb hby at_25) (pc' := 27) rfl rfl ?_
  refine gIushr X0 hx (hb hby at_27) (pc' := 28) rfl ?_
  refine gBipush X0 hx (v := (15 : Int32)) (hb hby at_28) (pc' := 30) rfl rfl ?_
  refine gIand X0 hx (hb hby at_30) (pc' := 31) rfl ?_
  generalize hg_l2 : (((p1.toUInt32 >>> ((8 : Int32) &&& 31).toUInt32).toInt32) &&& (15 : Int32)) = l2
  have h_l2 : 0 ≤ l2.toInt ∧ l2.toInt ≤ 15 := by rw [← hg_l2]; exact own_15 _
  refine gStoreI X0 hx (hb hby at_31) (l' := #[.val (.int p0), .val (.int p1), .val (.int p2), .val (.int p3), .val (.int p4), .val (.int n), .val (.int l0), .val (.int l1), .val (.int l2), .unset, .unset, .unset, .unset, .unset, .unset, .unset, .unset, .unset, .unset, .unset, .unset, .unset]) (pc' := 33) rfl rfl ?_
  refine gIconst X0 hx (v := (1 : Int32)) (hb hby at_33) (pc' := 34) rfl rfl ?_
  refine gLoadIN X0 hx (hb hby at_34) (pc' := 35) rfl rfl ?_
  refine gBipush X0 hx (v := (15 : Int32)) (hb hby at_35) (pc' := 37) rfl rfl ?_
  refine gIand X0 hx (hb hby at_37) (pc' := 38) rfl ?_
  refine gIadd X0 hx (hb hby at_38) (pc' := 39) rfl ?_
  generalize hg_gp1 : ((1 : Int32) + (p2 &&& (15 : Int32))) = gp1
  refine gStoreI X0 hx (hb hby at_39) (l' := #[.val (.int p0), .val (.int p1), .val (.int p2), .val (.int p3), .val (.int p4), .val (.int n), .val (.int l0), .val (.int l1), .val (.int l2), .val (.int gp1), .unset, .unset, .unset, .unset, .unset, .unset, .unset, .unset, .unset, .unset, .unset, .unset]) (pc' := 41) rfl rfl ?_
  refine gIconst X0 hx (v := (1 : Int32)) (hb hby at_41) (pc' := 42) rfl rfl ?_
  refine gLoadIN X0 hx (hb hby at_42) (pc' := 43) rfl rfl ?_
  refine gIconst X0 hx (v := (4 : Int32)) (hb hby at_43) (pc' := 44) rfl rfl ?_
  refine gIushr X0 hx (hb hby at_44) (pc' := 45) rfl ?_
  refine gBipush X0 hx (v := (15 : Int32)) (hb hby at_45) (pc' := 47) rfl rfl ?_
  refine gIand X0 hx (hb hby at_47) (pc' := 48) rfl ?_
  refine gIadd X0 hx (hb hby at_48) (pc' := 49) rfl ?_
  generalize hg_gp2 : ((1 : Int32) + (((p2.toUInt32 >>> ((4 : Int32) &&& 31).toUInt32).toInt32) &&& (15 : Int32))) = gp2
  refine gStoreI X0 hx (hb hby at_49) (l' := #[.val (.int p0), .val (.int p1), .val (.int p2), .val (.int p3), .val (.int p4), .val (.int n), .val (.int l0), .val (.int l1), .val (.int l2), .val (.int gp1), .val (.int gp2), .unset, .unset, .unset, .unset, .unset, .unset, .unset, .unset, .unset, .unset, .unset]) (pc' := 51) rfl rfl ?_
  refine gLoadIN X0 hx (hb hby at_51) (pc' := 52) rfl rfl ?_
  refine gLdc X0 hx hZ hown (hw _ (List.mem_of_getElem? (i := 1) rfl)) (hb hby at_52) (pc' := 54) rfl ?_
  refine gIand X0 hx (hb hby at_54) (pc' := 55) rfl ?_
  generalize hg_t0 : (p0 &&& (1048575 : Int32)) = t0
  refine gStoreI X0 hx (hb hby at_55) (l' := #[.val (.int p0), .val (.int p1), .val (.int p2), .val (.int p3), .val (.int p4), .val (.int n), .val (.int l0), .val (.int l1), .val (.int l2), .val (.int gp1), .val (.int gp2), .val (.int t0), .unset, .unset, .unset, .unset, .unset, .unset, .unset, .unset, .unset, .unset]) (pc' := 57) rfl rfl ?_
  refine gLoadI X0 hx (hb hby at_57) (pc' := 59) rfl rfl ?_
  refine gIconst X0 hx (v := (1 : Int32)) (hb hby at_59) (pc' := 60) rfl rfl ?_
  refine gIadd X0 hx (hb hby at_60) (pc' := 61) rfl ?_
  generalize hg_be1 : (l0 + (1 : Int32)) = be1
  have h_be1 : be1.toInt = l0.toInt + 1 := by rw [← hg_be1, Jvm.Kit.i32_add (by omega) (by omega)]; omega
  refine gStoreI X0 hx (hb hby at_61) (l' := #[.val (.int p0), .val (.int p1), .val (.int p2), .val (.int p3), .val (.int p4), .val (.int n), .val (.int l0), .val (.int l1), .val (.int l2), .val (.int gp1), .val (.int gp2), .val (.int t0), .val (.int be1), .unset, .unset, .unset, .unset, .unset, .unset, .unset, .unset, .unset]) (pc' := 63) rfl rfl ?_
  refine gLoadI X0 hx (hb hby at_63) (pc' := 65) rfl rfl ?_
  refine gLoadI X0 hx (hb hby at_65) (pc' := 67) rfl rfl ?_
  refine gIadd X0 hx (hb hby at_67) (pc' := 68) rfl ?_
  refine gIconst X0 hx (v := (1 : Int32)) (hb hby at_68) (pc' := 69) rfl rfl ?_
  refine gIadd X0 hx (hb hby at_69) (pc' := 70) rfl ?_
  generalize hg_be2 : ((be1 + l1) + (1 : Int32)) = be2
  have h_be2 : be2.toInt = be1.toInt + l1.toInt + 1 := by
    have q : (be1 + l1).toInt = be1.toInt + l1.toInt := Jvm.Kit.i32_add (by omega) (by omega)
    rw [← hg_be2, Jvm.Kit.i32_add (by omega) (by omega)]; omega
  refine gStoreI X0 hx (hb hby at_70) (l' := #[.val (.int p0), .val (.int p1), .val (.int p2), .val (.int p3), .val (.int p4), .val (.int n), .val (.int l0), .val (.int l1), .val (.int l2), .val (.int gp1), .val (.int gp2), .val (.int t0), .val (.int be1), .val (.int be2), .unset, .unset, .unset, .unset, .unset, .unset, .unset, .unset]) (pc' := 72) rfl rfl ?_
  refine gLoadI X0 hx (hb hby at_72) (pc' := 74) rfl rfl ?_
  refine gLoadI X0 hx (hb hby at_74) (pc' := 76) rfl rfl ?_
  refine gIadd X0 hx (hb hby at_76) (pc' := 77) rfl ?_
  refine gLoadI X0 hx (hb hby at_77) (pc' := 79) rfl rfl ?_
  refine gIadd X0 hx (hb hby at_79) (pc' := 80) rfl ?_
  generalize hg_sv1 : ((t0 + l0) + gp1) = sv1
  refine gStoreI X0 hx (hb hby at_80) (l' := #[.val (.int p0), .val (.int p1), .val (.int p2), .val (.int p3), .val (.int p4), .val (.int n), .val (.int l0), .val (.int l1), .val (.int l2), .val (.int gp1), .val (.int gp2), .val (.int t0), .val (.int be1), .val (.int be2), .val (.int sv1), .unset, .unset, .unset, .unset, .unset, .unset, .unset]) (pc' := 82) rfl rfl ?_
  refine gLoadI X0 hx (hb hby at_82) (pc' := 84) rfl rfl ?_
  refine gLoadI X0 hx (hb hby at_84) (pc' := 86) rfl rfl ?_
  refine gIadd X0 hx (hb hby at_86) (pc' := 87) rfl ?_
  refine gLoadI X0 hx (hb hby at_87) (pc' := 89) rfl rfl ?_
  refine gIadd X0 hx (hb hby at_89) (pc' := 90) rfl ?_
  generalize hg_sv2 : ((sv1 + l1) + gp2) = sv2
  refine gStoreI X0 hx (hb hby at_90) (l' := #[.val (.int p0), .val (.int p1), .val (.int p2), .val (.int p3), .val (.int p4), .val (.int n), .val (.int l0), .val (.int l1), .val (.int l2), .val (.int gp1), .val (.int gp2), .val (.int t0), .val (.int be1), .val (.int be2), .val (.int sv1), .val (.int sv2), .unset, .unset, .unset, .unset, .unset, .unset]) (pc' := 92) rfl rfl ?_
  refine gLoadI X0 hx (hb hby at_92) (pc' := 94) rfl rfl ?_
  refine gIconst X0 hx (v := (1 : Int32)) (hb hby at_94) (pc' := 95) rfl rfl ?_
  refine gIcmpNeT X0 hx (hb hby at_95) (pc' := 124) (by decide) (by decide) (pn := 98) rfl (fun (c95 : ¬ n.toInt = (1 : Int)) => ?_) (fun (c95 : n.toInt = (1 : Int)) => ?_)
  · refine gLoadI X0 hx (hb hby at_124) (pc' := 126) rfl rfl ?_
    refine gIconst X0 hx (v := (2 : Int32)) (hb hby at_126) (pc' := 127) rfl rfl ?_
    refine gIcmpNeT X0 hx (hb hby at_127) (pc' := 169) (by decide) (by decide) (pn := 130) rfl (fun (c127 : ¬ n.toInt = (2 : Int)) => ?_) (fun (c127 : n.toInt = (2 : Int)) => ?_)
    · refine gLoadI X0 hx (hb hby at_169) (pc' := 171) rfl rfl ?_
      refine gLoadI X0 hx (hb hby at_171) (pc' := 173) rfl rfl ?_
      refine gIadd X0 hx (hb hby at_173) (pc' := 174) rfl ?_
      generalize hg_len : (be2 + l2) = len
      have h_len : 0 ≤ len.toInt ∧ len.toInt ≤ 1000 := by rw [← hg_len, Jvm.Kit.i32_add (by omega) (by omega)]; omega
      refine gStoreI X0 hx (hb hby at_174) (l' := #[.val (.int p0), .val (.int p1), .val (.int p2), .val (.int p3), .val (.int p4), .val (.int n), .val (.int l0), .val (.int l1), .val (.int l2), .val (.int gp1), .val (.int gp2), .val (.int t0), .val (.int be1), .val (.int be2), .val (.int sv1), .val (.int sv2), .val (.int len), .unset, .unset, .unset, .unset, .unset]) (pc' := 176) rfl rfl ?_
      refine gIconst X0 hx (v := (3 : Int32)) (hb hby at_176) (pc' := 177) rfl rfl ?_
      refine gNewP X0 hx hZ (hw _ (List.mem_of_getElem? (i := 2) rfl)) e0 (n := (3 : Int32)) (hb hby at_177) (by decide) (cap := 3) (by decide) (by decide) (by decide) (by decide) 3 (pc' := 179) rfl (fun T1 h1 b1 ck1 X1 e1 g1 E1 A1 => ?_)
      have H1 := H0.trans (CHr.ext E1 H0.1)
      have hk1 := Nat.le_trans (Nat.zero_le _) E1.1
      have s1_b := Safe.ext E1 H0.1 (Safe.new (Nat.le_of_eq g1.symm))
      have sz_b1 : h0.size ≤ b1 := Nat.le_trans (Nat.le_refl _) (Nat.le_of_eq g1.symm)
      have zs1 : h0.size ≤ h1.size := Nat.le_trans (Nat.le_refl _) E1.1
      have V1 : Arv Z h1 b1 ck1 .int (3 : Int32) [(.int (0 : Int32)), (.int (0 : Int32)), (.int (0 : Int32))] (.int (0 : Int32)) := A1
      refine gDup X1 hx (hb hby at_179) (pc' := 180) rfl rfl ?_
      refine gIconst X1 hx (v := (0 : Int32)) (hb hby at_180) (pc' := 181) rfl rfl ?_
      refine gIconst X1 hx (v := (0 : Int32)) (hb hby at_181) (pc' := 182) rfl rfl ?_
      refine gIastore X1 hx hZ e1 (x := (0 : Int32)) V1 (j := (0 : Int32)) (by decide) (by decide) 0 (by decide) (by simp) (hb hby at_182) (pc' := 183) rfl (fun T2 h2 X2 e2 W2 A2 => ?_)
      have S2 := s1_b
      have H2 := H1.trans (CHr.wr W2 S2 H1.1)
      have hk2 := Nat.le_trans hk1 (Nat.le_of_eq W2.size.symm)
      have s2_0 := Safe.wr W2 S2 H1.1 s1_b
      have zs2 : h0.size ≤ h2.size := by rw [W2.size]; exact zs1
      have N2 := Fr.snoc X2 (Fr.nil h0.size) sz_b1
      have V2 : Arv Z h2 b1 _ .int (3 : Int32) [(.int (0 : Int32)), (.int (0 : Int32)), (.int (0 : Int32))] (.int (0 : Int32)) := A2
      refine gDup X2 hx (hb hby at_183) (pc' := 184) rfl rfl ?_
      refine gIconst X2 hx (v := (1 : Int32)) (hb hby at_184) (pc' := 185) rfl rfl ?_
      refine gLoadI X2 hx (hb hby at_185) (pc' := 187) rfl rfl ?_
      refine gIastore X2 hx hZ e2 (x := be1) V2 (j := (1 : Int32)) (by decide) (by decide) 1 (by decide) (by simp) (hb hby at_187) (pc' := 188) rfl (fun T3 h3 X3 e3 W3 A3 => ?_)
      have S3 := s2_0
      have H3 := H2.trans (CHr.wr W3 S3 H2.1)
      have hk3 := Nat.le_trans hk2 (Nat.le_of_eq W3.size.symm)
      have s3_0 := Safe.wr W3 S3 H2.1 s2_0
      have zs3 : h0.size ≤ h3.size := by rw [W3.size]; exact zs2
      have N3 := Fr.snoc X3 N2 sz_b1
      have V3 : Arv Z h3 b1 _ .int (3 : Int32) [(.int (0 : Int32)), (.int be1), (.int (0 : Int32))] (.int (0 : Int32)) := A3
      refine gDup X3 hx (hb hby at_188) (pc' := 189) rfl rfl ?_
      refine gIconst X3 hx (v := (2 : Int32)) (hb hby at_189) (pc' := 190) rfl rfl ?_
      refine gLoadI X3 hx (hb hby at_190) (pc' := 192) rfl rfl ?_
      refine gIastore X3 hx hZ e3 (x := be2) V3 (j := (2 : Int32)) (by decide) (by decide) 2 (by decide) (by simp) (hb hby at_192) (pc' := 193) rfl (fun T4 h4 X4 e4 W4 A4 => ?_)
      have S4 := s3_0
      have H4 := H3.trans (CHr.wr W4 S4 H3.1)
      have hk4 := Nat.le_trans hk3 (Nat.le_of_eq W4.size.symm)
      have s4_0 := Safe.wr W4 S4 H3.1 s3_0
      have zs4 : h0.size ≤ h4.size := by rw [W4.size]; exact zs3
      have N4 := Fr.snoc X4 N3 sz_b1
      have V4 : Arv Z h4 b1 _ .int (3 : Int32) [(.int (0 : Int32)), (.int be1), (.int be2)] (.int (0 : Int32)) := A4
      refine gStoreA X4 hx (hb hby at_193) (l' := #[.val (.int p0), .val (.int p1), .val (.int p2), .val (.int p3), .val (.int p4), .val (.int n), .val (.int l0), .val (.int l1), .val (.int l2), .val (.int gp1), .val (.int gp2), .val (.int t0), .val (.int be1), .val (.int be2), .val (.int sv1), .val (.int sv2), .val (.int len), .val (.ref b1), .unset, .unset, .unset, .unset]) (pc' := 195) rfl rfl rfl ?_
      refine gIconst X4 hx (v := (3 : Int32)) (hb hby at_195) (pc' := 196) rfl rfl ?_
      refine gNewP X4 hx hZ (hw _ (List.mem_of_getElem? (i := 2) rfl)) e4 (n := (3 : Int32)) (hb hby at_196) (by decide) (cap := 3) (by decide) (by decide) (by decide) (by decide) 3 (pc' := 198) rfl (fun T5 h5 b5 ck5 X5 e5 g5 E5 A5 => ?_)
      have ne_b1_b5 : b1 ≠ b5 := Nat.ne_of_lt (Nat.lt_of_lt_of_eq V4.lt g5.symm)
      have H5 := H4.trans (CHr.ext E5 H4.1)
      have hk5 := Nat.le_trans hk4 E5.1
      have s5_0 := Safe.ext E5 H4.1 s4_0
      have s5_b := Safe.ext E5 H4.1 (Safe.new (Nat.le_of_eq g5.symm))
      have f5_0 := V4.ext E5
      have sz_b5 : h0.size ≤ b5 := Nat.le_trans zs4 (Nat.le_of_eq g5.symm)
      have zs5 : h0.size ≤ h5.size := Nat.le_trans zs4 E5.1
      have V5 : Arv Z h5 b5 ck5 .int (3 : Int32) [(.int (0 : Int32)), (.int (0 : Int32)), (.int (0 : Int32))] (.int (0 : Int32)) := A5
      refine gDup X5 hx (hb hby at_198) (pc' := 199) rfl rfl ?_
      refine gIconst X5 hx (v := (0 : Int32)) (hb hby at_199) (pc' := 200) rfl rfl ?_
      refine gLoadI X5 hx (hb hby at_200) (pc' := 202) rfl rfl ?_
      refine gIastore X5 hx hZ e5 (x := t0) V5 (j := (0 : Int32)) (by decide) (by decide) 0 (by decide) (by simp) (hb hby at_202) (pc' := 203) rfl (fun T6 h6 X6 e6 W6 A6 => ?_)
      have S6 := s5_b
      have H6 := H5.trans (CHr.wr W6 S6 H5.1)
      have hk6 := Nat.le_trans hk5 (Nat.le_of_eq W6.size.symm)
      have s6_0 := Safe.wr W6 S6 H5.1 s5_0
      have s6_1 := Safe.wr W6 S6 H5.1 s5_b
      have f6_0 := f5_0.other W6 ne_b1_b5
      have zs6 : h0.size ≤ h6.size := by rw [W6.size]; exact zs5
      have N6 := Fr.snoc X6 N4 sz_b5
      have V6 : Arv Z h6 b5 _ .int (3 : Int32) [(.int t0), (.int (0 : Int32)), (.int (0 : Int32))] (.int (0 : Int32)) := A6
      refine gDup X6 hx (hb hby at_203) (pc' := 204) rfl rfl ?_
      refine gIconst X6 hx (v := (1 : Int32)) (hb hby at_204) (pc' := 205) rfl rfl ?_
      refine gLoadI X6 hx (hb hby at_205) (pc' := 207) rfl rfl ?_
      refine gIastore X6 hx hZ e6 (x := sv1) V6 (j := (1 : Int32)) (by decide) (by decide) 1 (by decide) (by simp) (hb hby at_207) (pc' := 208) rfl (fun T7 h7 X7 e7 W7 A7 => ?_)
      have S7 := s6_1
      have H7 := H6.trans (CHr.wr W7 S7 H6.1)
      have hk7 := Nat.le_trans hk6 (Nat.le_of_eq W7.size.symm)
      have s7_0 := Safe.wr W7 S7 H6.1 s6_0
      have s7_1 := Safe.wr W7 S7 H6.1 s6_1
      have f7_0 := f6_0.other W7 ne_b1_b5
      have zs7 : h0.size ≤ h7.size := by rw [W7.size]; exact zs6
      have N7 := Fr.snoc X7 N6 sz_b5
      have V7 : Arv Z h7 b5 _ .int (3 : Int32) [(.int t0), (.int sv1), (.int (0 : Int32))] (.int (0 : Int32)) := A7
      refine gDup X7 hx (hb hby at_208) (pc' := 209) rfl rfl ?_
      refine gIconst X7 hx (v := (2 : Int32)) (hb hby at_209) (pc' := 210) rfl rfl ?_
      refine gLoadI X7 hx (hb hby at_210) (pc' := 212) rfl rfl ?_
      refine gIastore X7 hx hZ e7 (x := sv2) V7 (j := (2 : Int32)) (by decide) (by decide) 2 (by decide) (by simp) (hb hby at_212) (pc' := 213) rfl (fun T8 h8 X8 e8 W8 A8 => ?_)
      have S8 := s7_1
      have H8 := H7.trans (CHr.wr W8 S8 H7.1)
      have hk8 := Nat.le_trans hk7 (Nat.le_of_eq W8.size.symm)
      have s8_0 := Safe.wr W8 S8 H7.1 s7_0
      have s8_1 := Safe.wr W8 S8 H7.1 s7_1
      have f8_0 := f7_0.other W8 ne_b1_b5
      have zs8 : h0.size ≤ h8.size := by rw [W8.size]; exact zs7
      have N8 := Fr.snoc X8 N7 sz_b5
      have V8 : Arv Z h8 b5 _ .int (3 : Int32) [(.int t0), (.int sv1), (.int sv2)] (.int (0 : Int32)) := A8
      refine gStoreA X8 hx (hb hby at_213) (l' := #[.val (.int p0), .val (.int p1), .val (.int p2), .val (.int p3), .val (.int p4), .val (.int n), .val (.int l0), .val (.int l1), .val (.int l2), .val (.int gp1), .val (.int gp2), .val (.int t0), .val (.int be1), .val (.int be2), .val (.int sv1), .val (.int sv2), .val (.int len), .val (.ref b1), .val (.ref b5), .unset, .unset, .unset]) (pc' := 215) rfl rfl rfl ?_
      refine gLoadI X8 hx (hb hby at_215) (pc' := 217) rfl rfl ?_
      refine gLdc X8 hx hZ hown (hw _ (List.mem_of_getElem? (i := 0) rfl)) (hb hby at_217) (pc' := 219) rfl ?_
      refine gIand X8 hx (hb hby at_219) (pc' := 220) rfl ?_
      refine gLoadI X8 hx (hb hby at_220) (pc' := 222) rfl rfl ?_
      refine gIconst X8 hx (v := (1 : Int32)) (hb hby at_222) (pc' := 223) rfl rfl ?_
      refine gIadd X8 hx (hb hby at_223) (pc' := 224) rfl ?_
      refine gIrem X8 hx (hb hby at_224) (pc' := 225) (fun z => by have q := congrArg Int32.toInt z; rw [Jvm.Kit.i32_add (by omega) (by omega)] at q; have z0 : (0 : Int32).toInt = 0 := rfl; omega) rfl ?_
      generalize hg_i : ((p4 &&& (2147483647 : Int32)) % (len + (1 : Int32))) = i
      have h_i : 0 ≤ i.toInt := by rw [← hg_i]; exact own_idx _ _ h_len.1 h_len.2
      refine gStoreI X8 hx (hb hby at_225) (l' := #[.val (.int p0), .val (.int p1), .val (.int p2), .val (.int p3), .val (.int p4), .val (.int n), .val (.int l0), .val (.int l1), .val (.int l2), .val (.int gp1), .val (.int gp2), .val (.int t0), .val (.int be1), .val (.int be2), .val (.int sv1), .val (.int sv2), .val (.int len), .val (.ref b1), .val (.ref b5), .val (.int i), .unset, .unset]) (pc' := 227) rfl rfl ?_
      refine gLoadI X8 hx (hb hby at_227) (pc' := 229) rfl rfl ?_
      refine gIconst X8 hx (v := (3 : Int32)) (hb hby at_229) (pc' := 230) rfl rfl ?_
      refine gIcmpLt X8 hx (hb hby at_230) (pc' := 253) (by decide) (by decide) (pn := 233) rfl (fun (c230 : n.toInt < (3 : Int)) => ?_) (fun (c230 : (3 : Int) ≤ n.toInt) => ?_)
      · exact absurd c230 (by omega)
      · refine gLoadI X8 hx (hb hby at_233) (pc' := 235) rfl rfl ?_
        refine gLoadI X8 hx (hb hby at_235) (pc' := 237) rfl rfl ?_
        refine gIcmpLt X8 hx (hb hby at_237) (pc' := 253) (by decide) (by decide) (pn := 240) rfl (fun (c237 : i.toInt < be2.toInt) => ?_) (fun (c237 : be2.toInt ≤ i.toInt) => ?_)
        · refine gLoadI X8 hx (hb hby at_253) (pc' := 255) rfl rfl ?_
          refine gIconst X8 hx (v := (2 : Int32)) (hb hby at_255) (pc' := 256) rfl rfl ?_
          refine gIcmpLt X8 hx (hb hby at_256) (pc' := 279) (by decide) (by decide) (pn := 259) rfl (fun (c256 : n.toInt < (2 : Int)) => ?_) (fun (c256 : (2 : Int) ≤ n.toInt) => ?_)
          · exact absurd c256 (by omega)
          · refine gLoadI X8 hx (hb hby at_259) (pc' := 261) rfl rfl ?_
            refine gLoadI X8 hx (hb hby at_261) (pc' := 263) rfl rfl ?_
            refine gIcmpLt X8 hx (hb hby at_263) (pc' := 279) (by decide) (by decide) (pn := 266) rfl (fun (c263 : i.toInt < be1.toInt) => ?_) (fun (c263 : be1.toInt ≤ i.toInt) => ?_)
            · refine gLoadI X8 hx (hb hby at_279) (pc' := 281) rfl rfl ?_
              refine gLoadI X8 hx (hb hby at_281) (pc' := 283) rfl rfl ?_
              refine gIadd X8 hx (hb hby at_283) (pc' := 284) rfl ?_
              refine gStoreI X8 hx (hb hby at_284) (l' := #[.val (.int p0), .val (.int p1), .val (.int p2), .val (.int p3), .val (.int p4), .val (.int n), .val (.int l0), .val (.int l1), .val (.int l2), .val (.int gp1), .val (.int gp2), .val (.int t0), .val (.int be1), .val (.int be2), .val (.int sv1), .val (.int sv2), .val (.int len), .val (.ref b1), .val (.ref b5), .val (.int i), .val (.int (t0 + i)), .unset]) (pc' := 286) rfl rfl ?_
              refine gNew X8 hx hZ hown (hw _ (List.mem_of_getElem? (i := 3) rfl)) (hw _ (List.mem_of_getElem? (i := 4) rfl)) (hw _ (List.mem_of_getElem? (i := 5) rfl)) e8 (hb hby at_286) (pc' := 289) rfl (by decide) (by decide) (fun T9 h9 b9 X9 e9 g9 E9 A9 D9 => ?_)
              have ne_b1_b9 : b1 ≠ b9 := Nat.ne_of_lt (Nat.lt_of_lt_of_eq f8_0.lt g9.symm)
              have ne_b5_b9 : b5 ≠ b9 := Nat.ne_of_lt (Nat.lt_of_lt_of_eq V8.lt g9.symm)
              have H9 := H8.trans (CHr.ext E9 H8.1)
              have hk9 := Nat.le_trans hk8 E9.1
              have s9_0 := Safe.ext E9 H8.1 s8_0
              have s9_1 := Safe.ext E9 H8.1 s8_1
              have s9_b := Safe.ext E9 H8.1 (Safe.new (Nat.le_of_eq g9.symm))
              have f9_0 := f8_0.ext E9
              have f9_1 := V8.ext E9
              have sz_b9 : h0.size ≤ b9 := Nat.le_trans zs8 (Nat.le_of_eq g9.symm)
              have zs9 : h0.size ≤ h9.size := Nat.le_trans zs8 E9.1
              have F9_text : Fld Z h9 b9 "com/example/clausewright/clausewright/layout/Block" "text" "Ljava/lang/String;" .null := D9 (Or.inr (hw _ (List.mem_of_getElem? (i := 21) rfl))) (ty := (.object "java/lang/String")) (by decide)
              have F9_line : Fld Z h9 b9 "com/example/clausewright/clausewright/layout/Block" "line" "I" (.int (0 : Int32)) := D9 (Or.inr (hw _ (List.mem_of_getElem? (i := 23) rfl))) (ty := .int) (by decide)
              have F9_blockStarts : Fld Z h9 b9 "com/example/clausewright/clausewright/layout/Block" "blockStarts" "[I" .null := D9 (Or.inr (hw _ (List.mem_of_getElem? (i := 25) rfl))) (ty := (.array .int)) (by decide)
              have F9_textStarts : Fld Z h9 b9 "com/example/clausewright/clausewright/layout/Block" "textStarts" "[I" .null := D9 (Or.inr (hw _ (List.mem_of_getElem? (i := 27) rfl))) (ty := (.array .int)) (by decide)
              refine gDup X9 hx (hb hby at_289) (pc' := 290) rfl rfl ?_
              refine gLdcO X9 hx hZ hown (hw _ (List.mem_of_getElem? (i := 6) rfl)) wS e9 hS hk9 hEL H9 (hb hby at_290) (pc' := 292) rfl (n := 0) (by decide) (by decide) (by decide) (by decide) (fun a10 T10 h10 k10 X10 e10 E10 hS hk10 hZ hown C10 H10 => ?_)
              have s10_0 := C10.safe f9_0.lt s9_0
              have s10_1 := C10.safe f9_1.lt s9_1
              have s10_2 := C10.safe A9.lt s9_b
              have f10_0 := f9_0.ext E10
              have f10_1 := f9_1.ext E10
              have f10_2 := A9.ext E10
              have f10_3 := F9_text.ext E10
              have f10_4 := F9_line.ext E10
              have f10_5 := F9_blockStarts.ext E10
              have f10_6 := F9_textStarts.ext E10
              have zs10 : h0.size ≤ h10.size := Nat.le_trans zs9 E10.1
              refine gIconst X10 hx (v := (0 : Int32)) (hb hby at_292) (pc' := 293) rfl rfl ?_
              refine gLoadA X10 hx (hb hby at_293) (pc' := 295) rfl rfl rfl ?_
              refine gLoadA X10 hx (hb hby at_295) (pc' := 297) rfl rfl rfl ?_
              refine gCallI X10 hx hZ (y := (⟨"com/example/clausewright/clausewright/layout/Block", "<init>", "(Ljava/lang/String;I[I[I)V"⟩ : MethodName)) rfl hown e10 (by rw [hml]; rfl) (hw _ (List.mem_of_getElem? (i := 14) rfl)) (hw _ (List.mem_of_getElem? (i := 15) rfl)) (hw _ (List.mem_of_getElem? (i := 5) rfl)) (hw _ (List.mem_of_getElem? (i := 16) rfl)) (by decide) (argsL := [(.ref a10), (.int (0 : Int32)), (.ref b1), (.ref b5)]) (st := [(.ref b9)]) (c_init l Z a0 hw b9 a10 b1 b5 (0 : Int32) _ _ _ _ h0.size h10 sz_b9 f10_2 f10_3 f10_4 f10_5 f10_6) (lenOf pd_2 rfl) (hb hby at_297) (pc' := 300) rfl rfl (by decide) (W := 1) (Nat.le_of_eq rfl) (by decide) (by decide) (by decide) ?_
              intro T11 v11 L11 X11 hQ11
              obtain ⟨rfl, Nq11, Kq11, Eq11, Fb11, Ft11⟩ := hQ11
              have N11 := Fr.app N8 Nq11
              have H11 := H10.trans (CHr.keep Kq11 (sfS s10_2 sf0) H10.1)
              have hk11 := Nat.le_trans hk10 Kq11.1
              have s11_0 := Safe.keep Kq11 (sfS s10_2 sf0) H10.1 s10_0
              have s11_1 := Safe.keep Kq11 (sfS s10_2 sf0) H10.1 s10_1
              have s11_2 := Safe.keep Kq11 (sfS s10_2 sf0) H10.1 s10_2
              have f11_0 := f10_0.keep Kq11 (ninS ne_b1_b9 nin0)
              have f11_1 := f10_1.keep Kq11 (ninS ne_b5_b9 nin0)
              refine gStoreA X11 hx (hb hby at_300) (l' := #[.val (.int p0), .val (.int p1), .val (.int p2), .val (.int p3), .val (.int p4), .val (.int n), .val (.int l0), .val (.int l1), .val (.int l2), .val (.int gp1), .val (.int gp2), .val (.int t0), .val (.int be1), .val (.int be2), .val (.int sv1), .val (.int sv2), .val (.int len), .val (.ref b1), .val (.ref b5), .val (.int i), .val (.int (t0 + i)), .val (.ref b9)]) (pc' := 302) rfl rfl rfl ?_
              refine gLoadA X11 hx (hb hby at_302) (pc' := 304) rfl rfl rfl ?_
              refine gLoadI X11 hx (hb hby at_304) (pc' := 306) rfl rfl ?_
              refine gCallV X11 hx hZ (y := (⟨"com/example/clausewright/clausewright/layout/Block", "start", "(I)I"⟩ : MethodName)) hown rfl (by rw [hml]; rfl) Eq11 (hw _ (List.mem_of_getElem? (i := 28) rfl)) (hw _ (List.mem_of_getElem? (i := 29) rfl)) (hw _ (List.mem_of_getElem? (i := 31) rfl)) (hw _ (List.mem_of_getElem? (i := 30) rfl)) (hw _ (List.mem_of_getElem? (i := 5) rfl)) (hw _ (List.mem_of_getElem? (i := 32) rfl)) (by decide) (argsL := [(.int i)]) (st := []) (c_start_3 l Z a0 hw b9 b1 b5 _ _ i be1 be2 t0 sv1 sv2 _ h_i (by omega) (by omega) Fb11 Ft11 f11_0 f11_1) (lenOf pd_1 rfl) (hb hby at_306) (pc' := 309) rfl rfl (by decide) (W := 0) (Nat.le_of_eq rfl) (by decide) (by decide) (by decide) ?_
              intro T12 v12 L12 X12 hQ12
              obtain ⟨r, rfl, eq12, rfl, hcs⟩ := hQ12
              rw [List.append_nil] at X12
              refine gLoadI X12 hx (hb hby at_309) (pc' := 311) rfl rfl ?_
              refine gIcmpNe X12 hx (hb hby at_311) (pc' := 318) (by decide) (by decide) (pn := 314) rfl (fun (c311 : ¬ r = (t0 + i)) => ?_) (fun (c311 : r = (t0 + i)) => ?_)
              · exact absurd ((hcs.1 (by omega)).trans (by rw [Int32.sub_zero])) c311
              · refine gIconst X12 hx (v := (1 : Int32)) (hb hby at_314) (pc' := 315) rfl rfl ?_
                refine gGoto X12 hx (hb hby at_315) (pc' := 319) (by decide) (by decide) ?_
                exact gRetHN X12 hx hlk hret (by simp) (hb hby at_319) (w := (1 : Int32)) rfl eq12 hS hk11 hZ hEL H11 (by decide) (by decide) (⟨rfl, N11⟩)
            · refine gLoadI X8 hx (hb hby at_266) (pc' := 268) rfl rfl ?_
              refine gLoadI X8 hx (hb hby at_268) (pc' := 270) rfl rfl ?_
              refine gLoadI X8 hx (hb hby at_270) (pc' := 272) rfl rfl ?_
              refine gIsub X8 hx (hb hby at_272) (pc' := 273) rfl ?_
              refine gIadd X8 hx (hb hby at_273) (pc' := 274) rfl ?_
              refine gStoreI X8 hx (hb hby at_274) (l' := #[.val (.int p0), .val (.int p1), .val (.int p2), .val (.int p3), .val (.int p4), .val (.int n), .val (.int l0), .val (.int l1), .val (.int l2), .val (.int gp1), .val (.int gp2), .val (.int t0), .val (.int be1), .val (.int be2), .val (.int sv1), .val (.int sv2), .val (.int len), .val (.ref b1), .val (.ref b5), .val (.int i), .val (.int (sv1 + (i - be1))), .unset]) (pc' := 276) rfl rfl ?_
              refine gGoto X8 hx (hb hby at_276) (pc' := 286) (by decide) (by decide) ?_
              refine gNew X8 hx hZ hown (hw _ (List.mem_of_getElem? (i := 3) rfl)) (hw _ (List.mem_of_getElem? (i := 4) rfl)) (hw _ (List.mem_of_getElem? (i := 5) rfl)) e8 (hb hby at_286) (pc' := 289) rfl (by decide) (by decide) (fun T13 h13 b13 X13 e13 g13 E13 A13 D13 => ?_)
              have ne_b1_b13 : b1 ≠ b13 := Nat.ne_of_lt (Nat.lt_of_lt_of_eq f8_0.lt g13.symm)
              have ne_b5_b13 : b5 ≠ b13 := Nat.ne_of_lt (Nat.lt_of_lt_of_eq V8.lt g13.symm)
              have H13 := H8.trans (CHr.ext E13 H8.1)
              have hk13 := Nat.le_trans hk8 E13.1
              have s13_0 := Safe.ext E13 H8.1 s8_0
              have s13_1 := Safe.ext E13 H8.1 s8_1
              have s13_b := Safe.ext E13 H8.1 (Safe.new (Nat.le_of_eq g13.symm))
              have f13_0 := f8_0.ext E13
              have f13_1 := V8.ext E13
              have sz_b13 : h0.size ≤ b13 := Nat.le_trans zs8 (Nat.le_of_eq g13.symm)
              have zs13 : h0.size ≤ h13.size := Nat.le_trans zs8 E13.1
              have F13_text : Fld Z h13 b13 "com/example/clausewright/clausewright/layout/Block" "text" "Ljava/lang/String;" .null := D13 (Or.inr (hw _ (List.mem_of_getElem? (i := 21) rfl))) (ty := (.object "java/lang/String")) (by decide)
              have F13_line : Fld Z h13 b13 "com/example/clausewright/clausewright/layout/Block" "line" "I" (.int (0 : Int32)) := D13 (Or.inr (hw _ (List.mem_of_getElem? (i := 23) rfl))) (ty := .int) (by decide)
              have F13_blockStarts : Fld Z h13 b13 "com/example/clausewright/clausewright/layout/Block" "blockStarts" "[I" .null := D13 (Or.inr (hw _ (List.mem_of_getElem? (i := 25) rfl))) (ty := (.array .int)) (by decide)
              have F13_textStarts : Fld Z h13 b13 "com/example/clausewright/clausewright/layout/Block" "textStarts" "[I" .null := D13 (Or.inr (hw _ (List.mem_of_getElem? (i := 27) rfl))) (ty := (.array .int)) (by decide)
              refine gDup X13 hx (hb hby at_289) (pc' := 290) rfl rfl ?_
              refine gLdcO X13 hx hZ hown (hw _ (List.mem_of_getElem? (i := 6) rfl)) wS e13 hS hk13 hEL H13 (hb hby at_290) (pc' := 292) rfl (n := 0) (by decide) (by decide) (by decide) (by decide) (fun a14 T14 h14 k14 X14 e14 E14 hS hk14 hZ hown C14 H14 => ?_)
              have s14_0 := C14.safe f13_0.lt s13_0
              have s14_1 := C14.safe f13_1.lt s13_1
              have s14_2 := C14.safe A13.lt s13_b
              have f14_0 := f13_0.ext E14
              have f14_1 := f13_1.ext E14
              have f14_2 := A13.ext E14
              have f14_3 := F13_text.ext E14
              have f14_4 := F13_line.ext E14
              have f14_5 := F13_blockStarts.ext E14
              have f14_6 := F13_textStarts.ext E14
              have zs14 : h0.size ≤ h14.size := Nat.le_trans zs13 E14.1
              refine gIconst X14 hx (v := (0 : Int32)) (hb hby at_292) (pc' := 293) rfl rfl ?_
              refine gLoadA X14 hx (hb hby at_293) (pc' := 295) rfl rfl rfl ?_
              refine gLoadA X14 hx (hb hby at_295) (pc' := 297) rfl rfl rfl ?_
              refine gCallI X14 hx hZ (y := (⟨"com/example/clausewright/clausewright/layout/Block", "<init>", "(Ljava/lang/String;I[I[I)V"⟩ : MethodName)) rfl hown e14 (by rw [hml]; rfl) (hw _ (List.mem_of_getElem? (i := 14) rfl)) (hw _ (List.mem_of_getElem? (i := 15) rfl)) (hw _ (List.mem_of_getElem? (i := 5) rfl)) (hw _ (List.mem_of_getElem? (i := 16) rfl)) (by decide) (argsL := [(.ref a14), (.int (0 : Int32)), (.ref b1), (.ref b5)]) (st := [(.ref b13)]) (c_init l Z a0 hw b13 a14 b1 b5 (0 : Int32) _ _ _ _ h0.size h14 sz_b13 f14_2 f14_3 f14_4 f14_5 f14_6) (lenOf pd_2 rfl) (hb hby at_297) (pc' := 300) rfl rfl (by decide) (W := 1) (Nat.le_of_eq rfl) (by decide) (by decide) (by decide) ?_
              intro T15 v15 L15 X15 hQ15
              obtain ⟨rfl, Nq15, Kq15, Eq15, Fb15, Ft15⟩ := hQ15
              have N15 := Fr.app N8 Nq15
              have H15 := H14.trans (CHr.keep Kq15 (sfS s14_2 sf0) H14.1)
              have hk15 := Nat.le_trans hk14 Kq15.1
              have s15_0 := Safe.keep Kq15 (sfS s14_2 sf0) H14.1 s14_0
              have s15_1 := Safe.keep Kq15 (sfS s14_2 sf0) H14.1 s14_1
              have s15_2 := Safe.keep Kq15 (sfS s14_2 sf0) H14.1 s14_2
              have f15_0 := f14_0.keep Kq15 (ninS ne_b1_b13 nin0)
              have f15_1 := f14_1.keep Kq15 (ninS ne_b5_b13 nin0)
              refine gStoreA X15 hx (hb hby at_300) (l' := #[.val (.int p0), .val (.int p1), .val (.int p2), .val (.int p3), .val (.int p4), .val (.int n), .val (.int l0), .val (.int l1), .val (.int l2), .val (.int gp1), .val (.int gp2), .val (.int t0), .val (.int be1), .val (.int be2), .val (.int sv1), .val (.int sv2), .val (.int len), .val (.ref b1), .val (.ref b5), .val (.int i), .val (.int (sv1 + (i - be1))), .val (.ref b13)]) (pc' := 302) rfl rfl rfl ?_
              refine gLoadA X15 hx (hb hby at_302) (pc' := 304) rfl rfl rfl ?_
              refine gLoadI X15 hx (hb hby at_304) (pc' := 306) rfl rfl ?_
              refine gCallV X15 hx hZ (y := (⟨"com/example/clausewright/clausewright/layout/Block", "start", "(I)I"⟩ : MethodName)) hown rfl (by rw [hml]; rfl) Eq15 (hw _ (List.mem_of_getElem? (i := 28) rfl)) (hw _ (List.mem_of_getElem? (i := 29) rfl)) (hw _ (List.mem_of_getElem? (i := 31) rfl)) (hw _ (List.mem_of_getElem? (i := 30) rfl)) (hw _ (List.mem_of_getElem? (i := 5) rfl)) (hw _ (List.mem_of_getElem? (i := 32) rfl)) (by decide) (argsL := [(.int i)]) (st := []) (c_start_3 l Z a0 hw b13 b1 b5 _ _ i be1 be2 t0 sv1 sv2 _ h_i (by omega) (by omega) Fb15 Ft15 f15_0 f15_1) (lenOf pd_1 rfl) (hb hby at_306) (pc' := 309) rfl rfl (by decide) (W := 0) (Nat.le_of_eq rfl) (by decide) (by decide) (by decide) ?_
              intro T16 v16 L16 X16 hQ16
              obtain ⟨r, rfl, eq16, rfl, hcs⟩ := hQ16
              rw [List.append_nil] at X16
              refine gLoadI X16 hx (hb hby at_309) (pc' := 311) rfl rfl ?_
              refine gIcmpNe X16 hx (hb hby at_311) (pc' := 318) (by decide) (by decide) (pn := 314) rfl (fun (c311 : ¬ r = (sv1 + (i - be1))) => ?_) (fun (c311 : r = (sv1 + (i - be1))) => ?_)
              · exact absurd ((hcs.2.1 (by omega)).trans (own_asb _ _ _)) c311
              · refine gIconst X16 hx (v := (1 : Int32)) (hb hby at_314) (pc' := 315) rfl rfl ?_
                refine gGoto X16 hx (hb hby at_315) (pc' := 319) (by decide) (by decide) ?_
                exact gRetHN X16 hx hlk hret (by simp) (hb hby at_319) (w := (1 : Int32)) rfl eq16 hS hk15 hZ hEL H15 (by decide) (by decide) (⟨rfl, N15⟩)
        · refine gLoadI X8 hx (hb hby at_240) (pc' := 242) rfl rfl ?_
          refine gLoadI X8 hx (hb hby at_242) (pc' := 244) rfl rfl ?_
          refine gLoadI X8 hx (hb hby at_244) (pc' := 246) rfl rfl ?_
          refine gIsub X8 hx (hb hby at_246) (pc' := 247) rfl ?_
          refine gIadd X8 hx (hb hby at_247) (pc' := 248) rfl ?_
          refine gStoreI X8 hx (hb hby at_248) (l' := #[.val (.int p0), .val (.int p1), .val (.int p2), .val (.int p3), .val (.int p4), .val (.int n), .val (.int l0), .val (.int l1), .val (.int l2), .val (.int gp1), .val (.int gp2), .val (.int t0), .val (.int be1), .val (.int be2), .val (.int sv1), .val (.int sv2), .val (.int len), .val (.ref b1), .val (.ref b5), .val (.int i), .val (.int (sv2 + (i - be2))), .unset]) (pc' := 250) rfl rfl ?_
          refine gGoto X8 hx (hb hby at_250) (pc' := 286) (by decide) (by decide) ?_
          refine gNew X8 hx hZ hown (hw _ (List.mem_of_getElem? (i := 3) rfl)) (hw _ (List.mem_of_getElem? (i := 4) rfl)) (hw _ (List.mem_of_getElem? (i := 5) rfl)) e8 (hb hby at_286) (pc' := 289) rfl (by decide) (by decide) (fun T17 h17 b17 X17 e17 g17 E17 A17 D17 => ?_)
          have ne_b1_b17 : b1 ≠ b17 := Nat.ne_of_lt (Nat.lt_of_lt_of_eq f8_0.lt g17.symm)
          have ne_b5_b17 : b5 ≠ b17 := Nat.ne_of_lt (Nat.lt_of_lt_of_eq V8.lt g17.symm)
          have H17 := H8.trans (CHr.ext E17 H8.1)
          have hk17 := Nat.le_trans hk8 E17.1
          have s17_0 := Safe.ext E17 H8.1 s8_0
          have s17_1 := Safe.ext E17 H8.1 s8_1
          have s17_b := Safe.ext E17 H8.1 (Safe.new (Nat.le_of_eq g17.symm))
          have f17_0 := f8_0.ext E17
          have f17_1 := V8.ext E17
          have sz_b17 : h0.size ≤ b17 := Nat.le_trans zs8 (Nat.le_of_eq g17.symm)
          have zs17 : h0.size ≤ h17.size := Nat.le_trans zs8 E17.1
          have F17_text : Fld Z h17 b17 "com/example/clausewright/clausewright/layout/Block" "text" "Ljava/lang/String;" .null := D17 (Or.inr (hw _ (List.mem_of_getElem? (i := 21) rfl))) (ty := (.object "java/lang/String")) (by decide)
          have F17_line : Fld Z h17 b17 "com/example/clausewright/clausewright/layout/Block" "line" "I" (.int (0 : Int32)) := D17 (Or.inr (hw _ (List.mem_of_getElem? (i := 23) rfl))) (ty := .int) (by decide)
          have F17_blockStarts : Fld Z h17 b17 "com/example/clausewright/clausewright/layout/Block" "blockStarts" "[I" .null := D17 (Or.inr (hw _ (List.mem_of_getElem? (i := 25) rfl))) (ty := (.array .int)) (by decide)
          have F17_textStarts : Fld Z h17 b17 "com/example/clausewright/clausewright/layout/Block" "textStarts" "[I" .null := D17 (Or.inr (hw _ (List.mem_of_getElem? (i := 27) rfl))) (ty := (.array .int)) (by decide)
          refine gDup X17 hx (hb hby at_289) (pc' := 290) rfl rfl ?_
          refine gLdcO X17 hx hZ hown (hw _ (List.mem_of_getElem? (i := 6) rfl)) wS e17 hS hk17 hEL H17 (hb hby at_290) (pc' := 292) rfl (n := 0) (by decide) (by decide) (by decide) (by decide) (fun a18 T18 h18 k18 X18 e18 E18 hS hk18 hZ hown C18 H18 => ?_)
          have s18_0 := C18.safe f17_0.lt s17_0
          have s18_1 := C18.safe f17_1.lt s17_1
          have s18_2 := C18.safe A17.lt s17_b
          have f18_0 := f17_0.ext E18
          have f18_1 := f17_1.ext E18
          have f18_2 := A17.ext E18
          have f18_3 := F17_text.ext E18
          have f18_4 := F17_line.ext E18
          have f18_5 := F17_blockStarts.ext E18
          have f18_6 := F17_textStarts.ext E18
          have zs18 : h0.size ≤ h18.size := Nat.le_trans zs17 E18.1
          refine gIconst X18 hx (v := (0 : Int32)) (hb hby at_292) (pc' := 293) rfl rfl ?_
          refine gLoadA X18 hx (hb hby at_293) (pc' := 295) rfl rfl rfl ?_
          refine gLoadA X18 hx (hb hby at_295) (pc' := 297) rfl rfl rfl ?_
          refine gCallI X18 hx hZ (y := (⟨"com/example/clausewright/clausewright/layout/Block", "<init>", "(Ljava/lang/String;I[I[I)V"⟩ : MethodName)) rfl hown e18 (by rw [hml]; rfl) (hw _ (List.mem_of_getElem? (i := 14) rfl)) (hw _ (List.mem_of_getElem? (i := 15) rfl)) (hw _ (List.mem_of_getElem? (i := 5) rfl)) (hw _ (List.mem_of_getElem? (i := 16) rfl)) (by decide) (argsL := [(.ref a18), (.int (0 : Int32)), (.ref b1), (.ref b5)]) (st := [(.ref b17)]) (c_init l Z a0 hw b17 a18 b1 b5 (0 : Int32) _ _ _ _ h0.size h18 sz_b17 f18_2 f18_3 f18_4 f18_5 f18_6) (lenOf pd_2 rfl) (hb hby at_297) (pc' := 300) rfl rfl (by decide) (W := 1) (Nat.le_of_eq rfl) (by decide) (by decide) (by decide) ?_
          intro T19 v19 L19 X19 hQ19
          obtain ⟨rfl, Nq19, Kq19, Eq19, Fb19, Ft19⟩ := hQ19
          have N19 := Fr.app N8 Nq19
          have H19 := H18.trans (CHr.keep Kq19 (sfS s18_2 sf0) H18.1)
          have hk19 := Nat.le_trans hk18 Kq19.1
          have s19_0 := Safe.keep Kq19 (sfS s18_2 sf0) H18.1 s18_0
          have s19_1 := Safe.keep Kq19 (sfS s18_2 sf0) H18.1 s18_1
          have s19_2 := Safe.keep Kq19 (sfS s18_2 sf0) H18.1 s18_2
          have f19_0 := f18_0.keep Kq19 (ninS ne_b1_b17 nin0)
          have f19_1 := f18_1.keep Kq19 (ninS ne_b5_b17 nin0)
          refine gStoreA X19 hx (hb hby at_300) (l' := #[.val (.int p0), .val (.int p1), .val (.int p2), .val (.int p3), .val (.int p4), .val (.int n), .val (.int l0), .val (.int l1), .val (.int l2), .val (.int gp1), .val (.int gp2), .val (.int t0), .val (.int be1), .val (.int be2), .val (.int sv1), .val (.int sv2), .val (.int len), .val (.ref b1), .val (.ref b5), .val (.int i), .val (.int (sv2 + (i - be2))), .val (.ref b17)]) (pc' := 302) rfl rfl rfl ?_
          refine gLoadA X19 hx (hb hby at_302) (pc' := 304) rfl rfl rfl ?_
          refine gLoadI X19 hx (hb hby at_304) (pc' := 306) rfl rfl ?_
          refine gCallV X19 hx hZ (y := (⟨"com/example/clausewright/clausewright/layout/Block", "start", "(I)I"⟩ : MethodName)) hown rfl (by rw [hml]; rfl) Eq19 (hw _ (List.mem_of_getElem? (i := 28) rfl)) (hw _ (List.mem_of_getElem? (i := 29) rfl)) (hw _ (List.mem_of_getElem? (i := 31) rfl)) (hw _ (List.mem_of_getElem? (i := 30) rfl)) (hw _ (List.mem_of_getElem? (i := 5) rfl)) (hw _ (List.mem_of_getElem? (i := 32) rfl)) (by decide) (argsL := [(.int i)]) (st := []) (c_start_3 l Z a0 hw b17 b1 b5 _ _ i be1 be2 t0 sv1 sv2 _ h_i (by omega) (by omega) Fb19 Ft19 f19_0 f19_1) (lenOf pd_1 rfl) (hb hby at_306) (pc' := 309) rfl rfl (by decide) (W := 0) (Nat.le_of_eq rfl) (by decide) (by decide) (by decide) ?_
          intro T20 v20 L20 X20 hQ20
          obtain ⟨r, rfl, eq20, rfl, hcs⟩ := hQ20
          rw [List.append_nil] at X20
          refine gLoadI X20 hx (hb hby at_309) (pc' := 311) rfl rfl ?_
          refine gIcmpNe X20 hx (hb hby at_311) (pc' := 318) (by decide) (by decide) (pn := 314) rfl (fun (c311 : ¬ r = (sv2 + (i - be2))) => ?_) (fun (c311 : r = (sv2 + (i - be2))) => ?_)
          · exact absurd ((hcs.2.2 (by omega)).trans (own_asb _ _ _)) c311
          · refine gIconst X20 hx (v := (1 : Int32)) (hb hby at_314) (pc' := 315) rfl rfl ?_
            refine gGoto X20 hx (hb hby at_315) (pc' := 319) (by decide) (by decide) ?_
            exact gRetHN X20 hx hlk hret (by simp) (hb hby at_319) (w := (1 : Int32)) rfl eq20 hS hk19 hZ hEL H19 (by decide) (by decide) (⟨rfl, N19⟩)
    · refine gLoadI X0 hx (hb hby at_130) (pc' := 132) rfl rfl ?_
      refine gLoadI X0 hx (hb hby at_132) (pc' := 134) rfl rfl ?_
      refine gIadd X0 hx (hb hby at_134) (pc' := 135) rfl ?_
      generalize hg_len : (be1 + l1) = len
      have h_len : 0 ≤ len.toInt ∧ len.toInt ≤ 1000 := by rw [← hg_len, Jvm.Kit.i32_add (by omega) (by omega)]; omega
      refine gStoreI X0 hx (hb hby at_135) (l' := #[.val (.int p0), .val (.int p1), .val (.int p2), .val (.int p3), .val (.int p4), .val (.int n), .val (.int l0), .val (.int l1), .val (.int l2), .val (.int gp1), .val (.int gp2), .val (.int t0), .val (.int be1), .val (.int be2), .val (.int sv1), .val (.int sv2), .val (.int len), .unset, .unset, .unset, .unset, .unset]) (pc' := 137) rfl rfl ?_
      refine gIconst X0 hx (v := (2 : Int32)) (hb hby at_137) (pc' := 138) rfl rfl ?_
      refine gNewP X0 hx hZ (hw _ (List.mem_of_getElem? (i := 2) rfl)) e0 (n := (2 : Int32)) (hb hby at_138) (by decide) (cap := 2) (by decide) (by decide) (by decide) (by decide) 2 (pc' := 140) rfl (fun T21 h21 b21 ck21 X21 e21 g21 E21 A21 => ?_)
      have H21 := H0.trans (CHr.ext E21 H0.1)
      have hk21 := Nat.le_trans (Nat.zero_le _) E21.1
      have s21_b := Safe.ext E21 H0.1 (Safe.new (Nat.le_of_eq g21.symm))
      have sz_b21 : h0.size ≤ b21 := Nat.le_trans (Nat.le_refl _) (Nat.le_of_eq g21.symm)
      have zs21 : h0.size ≤ h21.size := Nat.le_trans (Nat.le_refl _) E21.1
      have V21 : Arv Z h21 b21 ck21 .int (2 : Int32) [(.int (0 : Int32)), (.int (0 : Int32))] (.int (0 : Int32)) := A21
      refine gDup X21 hx (hb hby at_140) (pc' := 141) rfl rfl ?_
      refine gIconst X21 hx (v := (0 : Int32)) (hb hby at_141) (pc' := 142) rfl rfl ?_
      refine gIconst X21 hx (v := (0 : Int32)) (hb hby at_142) (pc' := 143) rfl rfl ?_
      refine gIastore X21 hx hZ e21 (x := (0 : Int32)) V21 (j := (0 : Int32)) (by decide) (by decide) 0 (by decide) (by simp) (hb hby at_143) (pc' := 144) rfl (fun T22 h22 X22 e22 W22 A22 => ?_)
      have S22 := s21_b
      have H22 := H21.trans (CHr.wr W22 S22 H21.1)
      have hk22 := Nat.le_trans hk21 (Nat.le_of_eq W22.size.symm)
      have s22_0 := Safe.wr W22 S22 H21.1 s21_b
      have zs22 : h0.size ≤ h22.size := by rw [W22.size]; exact zs21
      have N22 := Fr.snoc X22 (Fr.nil h0.size) sz_b21
      have V22 : Arv Z h22 b21 _ .int (2 : Int32) [(.int (0 : Int32)), (.int (0 : Int32))] (.int (0 : Int32)) := A22
      refine gDup X22 hx (hb hby at_144) (pc' := 145) rfl rfl ?_
      refine gIconst X22 hx (v := (1 : Int32)) (hb hby at_145) (pc' := 146) rfl rfl ?_
      refine gLoadI X22 hx (hb hby at_146) (pc' := 148) rfl rfl ?_
      refine gIastore X22 hx hZ e22 (x := be1) V22 (j := (1 : Int32)) (by decide) (by decide) 1 (by decide) (by simp) (hb hby at_148) (pc' := 149) rfl (fun T23 h23 X23 e23 W23 A23 => ?_)
      have S23 := s22_0
      have H23 := H22.trans (CHr.wr W23 S23 H22.1)
      have hk23 := Nat.le_trans hk22 (Nat.le_of_eq W23.size.symm)
      have s23_0 := Safe.wr W23 S23 H22.1 s22_0
      have zs23 : h0.size ≤ h23.size := by rw [W23.size]; exact zs22
      have N23 := Fr.snoc X23 N22 sz_b21
      have V23 : Arv Z h23 b21 _ .int (2 : Int32) [(.int (0 : Int32)), (.int be1)] (.int (0 : Int32)) := A23
      refine gStoreA X23 hx (hb hby at_149) (l' := #[.val (.int p0), .val (.int p1), .val (.int p2), .val (.int p3), .val (.int p4), .val (.int n), .val (.int l0), .val (.int l1), .val (.int l2), .val (.int gp1), .val (.int gp2), .val (.int t0), .val (.int be1), .val (.int be2), .val (.int sv1), .val (.int sv2), .val (.int len), .val (.ref b21), .unset, .unset, .unset, .unset]) (pc' := 151) rfl rfl rfl ?_
      refine gIconst X23 hx (v := (2 : Int32)) (hb hby at_151) (pc' := 152) rfl rfl ?_
      refine gNewP X23 hx hZ (hw _ (List.mem_of_getElem? (i := 2) rfl)) e23 (n := (2 : Int32)) (hb hby at_152) (by decide) (cap := 2) (by decide) (by decide) (by decide) (by decide) 2 (pc' := 154) rfl (fun T24 h24 b24 ck24 X24 e24 g24 E24 A24 => ?_)
      have ne_b21_b24 : b21 ≠ b24 := Nat.ne_of_lt (Nat.lt_of_lt_of_eq V23.lt g24.symm)
      have H24 := H23.trans (CHr.ext E24 H23.1)
      have hk24 := Nat.le_trans hk23 E24.1
      have s24_0 := Safe.ext E24 H23.1 s23_0
      have s24_b := Safe.ext E24 H23.1 (Safe.new (Nat.le_of_eq g24.symm))
      have f24_0 := V23.ext E24
      have sz_b24 : h0.size ≤ b24 := Nat.le_trans zs23 (Nat.le_of_eq g24.symm)
      have zs24 : h0.size ≤ h24.size := Nat.le_trans zs23 E24.1
      have V24 : Arv Z h24 b24 ck24 .int (2 : Int32) [(.int (0 : Int32)), (.int (0 : Int32))] (.int (0 : Int32)) := A24
      refine gDup X24 hx (hb hby at_154) (pc' := 155) rfl rfl ?_
      refine gIconst X24 hx (v := (0 : Int32)) (hb hby at_155) (pc' := 156) rfl rfl ?_
      refine gLoadI X24 hx (hb hby at_156) (pc' := 158) rfl rfl ?_
      refine gIastore X24 hx hZ e24 (x := t0) V24 (j := (0 : Int32)) (by decide) (by decide) 0 (by decide) (by simp) (hb hby at_158) (pc' := 159) rfl (fun T25 h25 X25 e25 W25 A25 => ?_)
      have S25 := s24_b
      have H25 := H24.trans (CHr.wr W25 S25 H24.1)
      have hk25 := Nat.le_trans hk24 (Nat.le_of_eq W25.size.symm)
      have s25_0 := Safe.wr W25 S25 H24.1 s24_0
      have s25_1 := Safe.wr W25 S25 H24.1 s24_b
      have f25_0 := f24_0.other W25 ne_b21_b24
      have zs25 : h0.size ≤ h25.size := by rw [W25.size]; exact zs24
      have N25 := Fr.snoc X25 N23 sz_b24
      have V25 : Arv Z h25 b24 _ .int (2 : Int32) [(.int t0), (.int (0 : Int32))] (.int (0 : Int32)) := A25
      refine gDup X25 hx (hb hby at_159) (pc' := 160) rfl rfl ?_
      refine gIconst X25 hx (v := (1 : Int32)) (hb hby at_160) (pc' := 161) rfl rfl ?_
      refine gLoadI X25 hx (hb hby at_161) (pc' := 163) rfl rfl ?_
      refine gIastore X25 hx hZ e25 (x := sv1) V25 (j := (1 : Int32)) (by decide) (by decide) 1 (by decide) (by simp) (hb hby at_163) (pc' := 164) rfl (fun T26 h26 X26 e26 W26 A26 => ?_)
      have S26 := s25_1
      have H26 := H25.trans (CHr.wr W26 S26 H25.1)
      have hk26 := Nat.le_trans hk25 (Nat.le_of_eq W26.size.symm)
      have s26_0 := Safe.wr W26 S26 H25.1 s25_0
      have s26_1 := Safe.wr W26 S26 H25.1 s25_1
      have f26_0 := f25_0.other W26 ne_b21_b24
      have zs26 : h0.size ≤ h26.size := by rw [W26.size]; exact zs25
      have N26 := Fr.snoc X26 N25 sz_b24
      have V26 : Arv Z h26 b24 _ .int (2 : Int32) [(.int t0), (.int sv1)] (.int (0 : Int32)) := A26
      refine gStoreA X26 hx (hb hby at_164) (l' := #[.val (.int p0), .val (.int p1), .val (.int p2), .val (.int p3), .val (.int p4), .val (.int n), .val (.int l0), .val (.int l1), .val (.int l2), .val (.int gp1), .val (.int gp2), .val (.int t0), .val (.int be1), .val (.int be2), .val (.int sv1), .val (.int sv2), .val (.int len), .val (.ref b21), .val (.ref b24), .unset, .unset, .unset]) (pc' := 166) rfl rfl rfl ?_
      refine gGoto X26 hx (hb hby at_166) (pc' := 215) (by decide) (by decide) ?_
      refine gLoadI X26 hx (hb hby at_215) (pc' := 217) rfl rfl ?_
      refine gLdc X26 hx hZ hown (hw _ (List.mem_of_getElem? (i := 0) rfl)) (hb hby at_217) (pc' := 219) rfl ?_
      refine gIand X26 hx (hb hby at_219) (pc' := 220) rfl ?_
      refine gLoadI X26 hx (hb hby at_220) (pc' := 222) rfl rfl ?_
      refine gIconst X26 hx (v := (1 : Int32)) (hb hby at_222) (pc' := 223) rfl rfl ?_
      refine gIadd X26 hx (hb hby at_223) (pc' := 224) rfl ?_
      refine gIrem X26 hx (hb hby at_224) (pc' := 225) (fun z => by have q := congrArg Int32.toInt z; rw [Jvm.Kit.i32_add (by omega) (by omega)] at q; have z0 : (0 : Int32).toInt = 0 := rfl; omega) rfl ?_
      generalize hg_i : ((p4 &&& (2147483647 : Int32)) % (len + (1 : Int32))) = i
      have h_i : 0 ≤ i.toInt := by rw [← hg_i]; exact own_idx _ _ h_len.1 h_len.2
      refine gStoreI X26 hx (hb hby at_225) (l' := #[.val (.int p0), .val (.int p1), .val (.int p2), .val (.int p3), .val (.int p4), .val (.int n), .val (.int l0), .val (.int l1), .val (.int l2), .val (.int gp1), .val (.int gp2), .val (.int t0), .val (.int be1), .val (.int be2), .val (.int sv1), .val (.int sv2), .val (.int len), .val (.ref b21), .val (.ref b24), .val (.int i), .unset, .unset]) (pc' := 227) rfl rfl ?_
      refine gLoadI X26 hx (hb hby at_227) (pc' := 229) rfl rfl ?_
      refine gIconst X26 hx (v := (3 : Int32)) (hb hby at_229) (pc' := 230) rfl rfl ?_
      refine gIcmpLt X26 hx (hb hby at_230) (pc' := 253) (by decide) (by decide) (pn := 233) rfl (fun (c230 : n.toInt < (3 : Int)) => ?_) (fun (c230 : (3 : Int) ≤ n.toInt) => ?_)
      · refine gLoadI X26 hx (hb hby at_253) (pc' := 255) rfl rfl ?_
        refine gIconst X26 hx (v := (2 : Int32)) (hb hby at_255) (pc' := 256) rfl rfl ?_
        refine gIcmpLt X26 hx (hb hby at_256) (pc' := 279) (by decide) (by decide) (pn := 259) rfl (fun (c256 : n.toInt < (2 : Int)) => ?_) (fun (c256 : (2 : Int) ≤ n.toInt) => ?_)
        · exact absurd c256 (by omega)
        · refine gLoadI X26 hx (hb hby at_259) (pc' := 261) rfl rfl ?_
          refine gLoadI X26 hx (hb hby at_261) (pc' := 263) rfl rfl ?_
          refine gIcmpLt X26 hx (hb hby at_263) (pc' := 279) (by decide) (by decide) (pn := 266) rfl (fun (c263 : i.toInt < be1.toInt) => ?_) (fun (c263 : be1.toInt ≤ i.toInt) => ?_)
          · refine gLoadI X26 hx (hb hby at_279) (pc' := 281) rfl rfl ?_
            refine gLoadI X26 hx (hb hby at_281) (pc' := 283) rfl rfl ?_
            refine gIadd X26 hx (hb hby at_283) (pc' := 284) rfl ?_
            refine gStoreI X26 hx (hb hby at_284) (l' := #[.val (.int p0), .val (.int p1), .val (.int p2), .val (.int p3), .val (.int p4), .val (.int n), .val (.int l0), .val (.int l1), .val (.int l2), .val (.int gp1), .val (.int gp2), .val (.int t0), .val (.int be1), .val (.int be2), .val (.int sv1), .val (.int sv2), .val (.int len), .val (.ref b21), .val (.ref b24), .val (.int i), .val (.int (t0 + i)), .unset]) (pc' := 286) rfl rfl ?_
            refine gNew X26 hx hZ hown (hw _ (List.mem_of_getElem? (i := 3) rfl)) (hw _ (List.mem_of_getElem? (i := 4) rfl)) (hw _ (List.mem_of_getElem? (i := 5) rfl)) e26 (hb hby at_286) (pc' := 289) rfl (by decide) (by decide) (fun T27 h27 b27 X27 e27 g27 E27 A27 D27 => ?_)
            have ne_b21_b27 : b21 ≠ b27 := Nat.ne_of_lt (Nat.lt_of_lt_of_eq f26_0.lt g27.symm)
            have ne_b24_b27 : b24 ≠ b27 := Nat.ne_of_lt (Nat.lt_of_lt_of_eq V26.lt g27.symm)
            have H27 := H26.trans (CHr.ext E27 H26.1)
            have hk27 := Nat.le_trans hk26 E27.1
            have s27_0 := Safe.ext E27 H26.1 s26_0
            have s27_1 := Safe.ext E27 H26.1 s26_1
            have s27_b := Safe.ext E27 H26.1 (Safe.new (Nat.le_of_eq g27.symm))
            have f27_0 := f26_0.ext E27
            have f27_1 := V26.ext E27
            have sz_b27 : h0.size ≤ b27 := Nat.le_trans zs26 (Nat.le_of_eq g27.symm)
            have zs27 : h0.size ≤ h27.size := Nat.le_trans zs26 E27.1
            have F27_text : Fld Z h27 b27 "com/example/clausewright/clausewright/layout/Block" "text" "Ljava/lang/String;" .null := D27 (Or.inr (hw _ (List.mem_of_getElem? (i := 21) rfl))) (ty := (.object "java/lang/String")) (by decide)
            have F27_line : Fld Z h27 b27 "com/example/clausewright/clausewright/layout/Block" "line" "I" (.int (0 : Int32)) := D27 (Or.inr (hw _ (List.mem_of_getElem? (i := 23) rfl))) (ty := .int) (by decide)
            have F27_blockStarts : Fld Z h27 b27 "com/example/clausewright/clausewright/layout/Block" "blockStarts" "[I" .null := D27 (Or.inr (hw _ (List.mem_of_getElem? (i := 25) rfl))) (ty := (.array .int)) (by decide)
            have F27_textStarts : Fld Z h27 b27 "com/example/clausewright/clausewright/layout/Block" "textStarts" "[I" .null := D27 (Or.inr (hw _ (List.mem_of_getElem? (i := 27) rfl))) (ty := (.array .int)) (by decide)
            refine gDup X27 hx (hb hby at_289) (pc' := 290) rfl rfl ?_
            refine gLdcO X27 hx hZ hown (hw _ (List.mem_of_getElem? (i := 6) rfl)) wS e27 hS hk27 hEL H27 (hb hby at_290) (pc' := 292) rfl (n := 0) (by decide) (by decide) (by decide) (by decide) (fun a28 T28 h28 k28 X28 e28 E28 hS hk28 hZ hown C28 H28 => ?_)
            have s28_0 := C28.safe f27_0.lt s27_0
            have s28_1 := C28.safe f27_1.lt s27_1
            have s28_2 := C28.safe A27.lt s27_b
            have f28_0 := f27_0.ext E28
            have f28_1 := f27_1.ext E28
            have f28_2 := A27.ext E28
            have f28_3 := F27_text.ext E28
            have f28_4 := F27_line.ext E28
            have f28_5 := F27_blockStarts.ext E28
            have f28_6 := F27_textStarts.ext E28
            have zs28 : h0.size ≤ h28.size := Nat.le_trans zs27 E28.1
            refine gIconst X28 hx (v := (0 : Int32)) (hb hby at_292) (pc' := 293) rfl rfl ?_
            refine gLoadA X28 hx (hb hby at_293) (pc' := 295) rfl rfl rfl ?_
            refine gLoadA X28 hx (hb hby at_295) (pc' := 297) rfl rfl rfl ?_
            refine gCallI X28 hx hZ (y := (⟨"com/example/clausewright/clausewright/layout/Block", "<init>", "(Ljava/lang/String;I[I[I)V"⟩ : MethodName)) rfl hown e28 (by rw [hml]; rfl) (hw _ (List.mem_of_getElem? (i := 14) rfl)) (hw _ (List.mem_of_getElem? (i := 15) rfl)) (hw _ (List.mem_of_getElem? (i := 5) rfl)) (hw _ (List.mem_of_getElem? (i := 16) rfl)) (by decide) (argsL := [(.ref a28), (.int (0 : Int32)), (.ref b21), (.ref b24)]) (st := [(.ref b27)]) (c_init l Z a0 hw b27 a28 b21 b24 (0 : Int32) _ _ _ _ h0.size h28 sz_b27 f28_2 f28_3 f28_4 f28_5 f28_6) (lenOf pd_2 rfl) (hb hby at_297) (pc' := 300) rfl rfl (by decide) (W := 1) (Nat.le_of_eq rfl) (by decide) (by decide) (by decide) ?_
            intro T29 v29 L29 X29 hQ29
            obtain ⟨rfl, Nq29, Kq29, Eq29, Fb29, Ft29⟩ := hQ29
            have N29 := Fr.app N26 Nq29
            have H29 := H28.trans (CHr.keep Kq29 (sfS s28_2 sf0) H28.1)
            have hk29 := Nat.le_trans hk28 Kq29.1
            have s29_0 := Safe.keep Kq29 (sfS s28_2 sf0) H28.1 s28_0
            have s29_1 := Safe.keep Kq29 (sfS s28_2 sf0) H28.1 s28_1
            have s29_2 := Safe.keep Kq29 (sfS s28_2 sf0) H28.1 s28_2
            have f29_0 := f28_0.keep Kq29 (ninS ne_b21_b27 nin0)
            have f29_1 := f28_1.keep Kq29 (ninS ne_b24_b27 nin0)
            refine gStoreA X29 hx (hb hby at_300) (l' := #[.val (.int p0), .val (.int p1), .val (.int p2), .val (.int p3), .val (.int p4), .val (.int n), .val (.int l0), .val (.int l1), .val (.int l2), .val (.int gp1), .val (.int gp2), .val (.int t0), .val (.int be1), .val (.int be2), .val (.int sv1), .val (.int sv2), .val (.int len), .val (.ref b21), .val (.ref b24), .val (.int i), .val (.int (t0 + i)), .val (.ref b27)]) (pc' := 302) rfl rfl rfl ?_
            refine gLoadA X29 hx (hb hby at_302) (pc' := 304) rfl rfl rfl ?_
            refine gLoadI X29 hx (hb hby at_304) (pc' := 306) rfl rfl ?_
            refine gCallV X29 hx hZ (y := (⟨"com/example/clausewright/clausewright/layout/Block", "start", "(I)I"⟩ : MethodName)) hown rfl (by rw [hml]; rfl) Eq29 (hw _ (List.mem_of_getElem? (i := 28) rfl)) (hw _ (List.mem_of_getElem? (i := 29) rfl)) (hw _ (List.mem_of_getElem? (i := 31) rfl)) (hw _ (List.mem_of_getElem? (i := 30) rfl)) (hw _ (List.mem_of_getElem? (i := 5) rfl)) (hw _ (List.mem_of_getElem? (i := 32) rfl)) (by decide) (argsL := [(.int i)]) (st := []) (c_start_2 l Z a0 hw b27 b21 b24 _ _ i be1 t0 sv1 _ h_i (by omega) Fb29 Ft29 f29_0 f29_1) (lenOf pd_1 rfl) (hb hby at_306) (pc' := 309) rfl rfl (by decide) (W := 0) (Nat.le_of_eq rfl) (by decide) (by decide) (by decide) ?_
            intro T30 v30 L30 X30 hQ30
            obtain ⟨r, rfl, eq30, rfl, hcs⟩ := hQ30
            rw [List.append_nil] at X30
            refine gLoadI X30 hx (hb hby at_309) (pc' := 311) rfl rfl ?_
            refine gIcmpNe X30 hx (hb hby at_311) (pc' := 318) (by decide) (by decide) (pn := 314) rfl (fun (c311 : ¬ r = (t0 + i)) => ?_) (fun (c311 : r = (t0 + i)) => ?_)
            · exact absurd ((hcs.1 (by omega)).trans (by rw [Int32.sub_zero])) c311
            · refine gIconst X30 hx (v := (1 : Int32)) (hb hby at_314) (pc' := 315) rfl rfl ?_
              refine gGoto X30 hx (hb hby at_315) (pc' := 319) (by decide) (by decide) ?_
              exact gRetHN X30 hx hlk hret (by simp) (hb hby at_319) (w := (1 : Int32)) rfl eq30 hS hk29 hZ hEL H29 (by decide) (by decide) (⟨rfl, N29⟩)
          · refine gLoadI X26 hx (hb hby at_266) (pc' := 268) rfl rfl ?_
            refine gLoadI X26 hx (hb hby at_268) (pc' := 270) rfl rfl ?_
            refine gLoadI X26 hx (hb hby at_270) (pc' := 272) rfl rfl ?_
            refine gIsub X26 hx (hb hby at_272) (pc' := 273) rfl ?_
            refine gIadd X26 hx (hb hby at_273) (pc' := 274) rfl ?_
            refine gStoreI X26 hx (hb hby at_274) (l' := #[.val (.int p0), .val (.int p1), .val (.int p2), .val (.int p3), .val (.int p4), .val (.int n), .val (.int l0), .val (.int l1), .val (.int l2), .val (.int gp1), .val (.int gp2), .val (.int t0), .val (.int be1), .val (.int be2), .val (.int sv1), .val (.int sv2), .val (.int len), .val (.ref b21), .val (.ref b24), .val (.int i), .val (.int (sv1 + (i - be1))), .unset]) (pc' := 276) rfl rfl ?_
            refine gGoto X26 hx (hb hby at_276) (pc' := 286) (by decide) (by decide) ?_
            refine gNew X26 hx hZ hown (hw _ (List.mem_of_getElem? (i := 3) rfl)) (hw _ (List.mem_of_getElem? (i := 4) rfl)) (hw _ (List.mem_of_getElem? (i := 5) rfl)) e26 (hb hby at_286) (pc' := 289) rfl (by decide) (by decide) (fun T31 h31 b31 X31 e31 g31 E31 A31 D31 => ?_)
            have ne_b21_b31 : b21 ≠ b31 := Nat.ne_of_lt (Nat.lt_of_lt_of_eq f26_0.lt g31.symm)
            have ne_b24_b31 : b24 ≠ b31 := Nat.ne_of_lt (Nat.lt_of_lt_of_eq V26.lt g31.symm)
            have H31 := H26.trans (CHr.ext E31 H26.1)
            have hk31 := Nat.le_trans hk26 E31.1
            have s31_0 := Safe.ext E31 H26.1 s26_0
            have s31_1 := Safe.ext E31 H26.1 s26_1
            have s31_b := Safe.ext E31 H26.1 (Safe.new (Nat.le_of_eq g31.symm))
            have f31_0 := f26_0.ext E31
            have f31_1 := V26.ext E31
            have sz_b31 : h0.size ≤ b31 := Nat.le_trans zs26 (Nat.le_of_eq g31.symm)
            have zs31 : h0.size ≤ h31.size := Nat.le_trans zs26 E31.1
            have F31_text : Fld Z h31 b31 "com/example/clausewright/clausewright/layout/Block" "text" "Ljava/lang/String;" .null := D31 (Or.inr (hw _ (List.mem_of_getElem? (i := 21) rfl))) (ty := (.object "java/lang/String")) (by decide)
            have F31_line : Fld Z h31 b31 "com/example/clausewright/clausewright/layout/Block" "line" "I" (.int (0 : Int32)) := D31 (Or.inr (hw _ (List.mem_of_getElem? (i := 23) rfl))) (ty := .int) (by decide)
            have F31_blockStarts : Fld Z h31 b31 "com/example/clausewright/clausewright/layout/Block" "blockStarts" "[I" .null := D31 (Or.inr (hw _ (List.mem_of_getElem? (i := 25) rfl))) (ty := (.array .int)) (by decide)
            have F31_textStarts : Fld Z h31 b31 "com/example/clausewright/clausewright/layout/Block" "textStarts" "[I" .null := D31 (Or.inr (hw _ (List.mem_of_getElem? (i := 27) rfl))) (ty := (.array .int)) (by decide)
            refine gDup X31 hx (hb hby at_289) (pc' := 290) rfl rfl ?_
            refine gLdcO X31 hx hZ hown (hw _ (List.mem_of_getElem? (i := 6) rfl)) wS e31 hS hk31 hEL H31 (hb hby at_290) (pc' := 292) rfl (n := 0) (by decide) (by decide) (by decide) (by decide) (fun a32 T32 h32 k32 X32 e32 E32 hS hk32 hZ hown C32 H32 => ?_)
            have s32_0 := C32.safe f31_0.lt s31_0
            have s32_1 := C32.safe f31_1.lt s31_1
            have s32_2 := C32.safe A31.lt s31_b
            have f32_0 := f31_0.ext E32
            have f32_1 := f31_1.ext E32
            have f32_2 := A31.ext E32
            have f32_3 := F31_text.ext E32
            have f32_4 := F31_line.ext E32
            have f32_5 := F31_blockStarts.ext E32
            have f32_6 := F31_textStarts.ext E32
            have zs32 : h0.size ≤ h32.size := Nat.le_trans zs31 E32.1
            refine gIconst X32 hx (v := (0 : Int32)) (hb hby at_292) (pc' := 293) rfl rfl ?_
            refine gLoadA X32 hx (hb hby at_293) (pc' := 295) rfl rfl rfl ?_
            refine gLoadA X32 hx (hb hby at_295) (pc' := 297) rfl rfl rfl ?_
            refine gCallI X32 hx hZ (y := (⟨"com/example/clausewright/clausewright/layout/Block", "<init>", "(Ljava/lang/String;I[I[I)V"⟩ : MethodName)) rfl hown e32 (by rw [hml]; rfl) (hw _ (List.mem_of_getElem? (i := 14) rfl)) (hw _ (List.mem_of_getElem? (i := 15) rfl)) (hw _ (List.mem_of_getElem? (i := 5) rfl)) (hw _ (List.mem_of_getElem? (i := 16) rfl)) (by decide) (argsL := [(.ref a32), (.int (0 : Int32)), (.ref b21), (.ref b24)]) (st := [(.ref b31)]) (c_init l Z a0 hw b31 a32 b21 b24 (0 : Int32) _ _ _ _ h0.size h32 sz_b31 f32_2 f32_3 f32_4 f32_5 f32_6) (lenOf pd_2 rfl) (hb hby at_297) (pc' := 300) rfl rfl (by decide) (W := 1) (Nat.le_of_eq rfl) (by decide) (by decide) (by decide) ?_
            intro T33 v33 L33 X33 hQ33
            obtain ⟨rfl, Nq33, Kq33, Eq33, Fb33, Ft33⟩ := hQ33
            have N33 := Fr.app N26 Nq33
            have H33 := H32.trans (CHr.keep Kq33 (sfS s32_2 sf0) H32.1)
            have hk33 := Nat.le_trans hk32 Kq33.1
            have s33_0 := Safe.keep Kq33 (sfS s32_2 sf0) H32.1 s32_0
            have s33_1 := Safe.keep Kq33 (sfS s32_2 sf0) H32.1 s32_1
            have s33_2 := Safe.keep Kq33 (sfS s32_2 sf0) H32.1 s32_2
            have f33_0 := f32_0.keep Kq33 (ninS ne_b21_b31 nin0)
            have f33_1 := f32_1.keep Kq33 (ninS ne_b24_b31 nin0)
            refine gStoreA X33 hx (hb hby at_300) (l' := #[.val (.int p0), .val (.int p1), .val (.int p2), .val (.int p3), .val (.int p4), .val (.int n), .val (.int l0), .val (.int l1), .val (.int l2), .val (.int gp1), .val (.int gp2), .val (.int t0), .val (.int be1), .val (.int be2), .val (.int sv1), .val (.int sv2), .val (.int len), .val (.ref b21), .val (.ref b24), .val (.int i), .val (.int (sv1 + (i - be1))), .val (.ref b31)]) (pc' := 302) rfl rfl rfl ?_
            refine gLoadA X33 hx (hb hby at_302) (pc' := 304) rfl rfl rfl ?_
            refine gLoadI X33 hx (hb hby at_304) (pc' := 306) rfl rfl ?_
            refine gCallV X33 hx hZ (y := (⟨"com/example/clausewright/clausewright/layout/Block", "start", "(I)I"⟩ : MethodName)) hown rfl (by rw [hml]; rfl) Eq33 (hw _ (List.mem_of_getElem? (i := 28) rfl)) (hw _ (List.mem_of_getElem? (i := 29) rfl)) (hw _ (List.mem_of_getElem? (i := 31) rfl)) (hw _ (List.mem_of_getElem? (i := 30) rfl)) (hw _ (List.mem_of_getElem? (i := 5) rfl)) (hw _ (List.mem_of_getElem? (i := 32) rfl)) (by decide) (argsL := [(.int i)]) (st := []) (c_start_2 l Z a0 hw b31 b21 b24 _ _ i be1 t0 sv1 _ h_i (by omega) Fb33 Ft33 f33_0 f33_1) (lenOf pd_1 rfl) (hb hby at_306) (pc' := 309) rfl rfl (by decide) (W := 0) (Nat.le_of_eq rfl) (by decide) (by decide) (by decide) ?_
            intro T34 v34 L34 X34 hQ34
            obtain ⟨r, rfl, eq34, rfl, hcs⟩ := hQ34
            rw [List.append_nil] at X34
            refine gLoadI X34 hx (hb hby at_309) (pc' := 311) rfl rfl ?_
            refine gIcmpNe X34 hx (hb hby at_311) (pc' := 318) (by decide) (by decide) (pn := 314) rfl (fun (c311 : ¬ r = (sv1 + (i - be1))) => ?_) (fun (c311 : r = (sv1 + (i - be1))) => ?_)
            · exact absurd ((hcs.2 (by omega)).trans (own_asb _ _ _)) c311
            · refine gIconst X34 hx (v := (1 : Int32)) (hb hby at_314) (pc' := 315) rfl rfl ?_
              refine gGoto X34 hx (hb hby at_315) (pc' := 319) (by decide) (by decide) ?_
              exact gRetHN X34 hx hlk hret (by simp) (hb hby at_319) (w := (1 : Int32)) rfl eq34 hS hk33 hZ hEL H33 (by decide) (by decide) (⟨rfl, N33⟩)
      · exact absurd c230 (by omega)
  · refine gLoadI X0 hx (hb hby at_98) (pc' := 100) rfl rfl ?_
    have h_len : 0 ≤ l0.toInt ∧ l0.toInt ≤ 1000 := by omega
    refine gStoreI X0 hx (hb hby at_100) (l' := #[.val (.int p0), .val (.int p1), .val (.int p2), .val (.int p3), .val (.int p4), .val (.int n), .val (.int l0), .val (.int l1), .val (.int l2), .val (.int gp1), .val (.int gp2), .val (.int t0), .val (.int be1), .val (.int be2), .val (.int sv1), .val (.int sv2), .val (.int l0), .unset, .unset, .unset, .unset, .unset]) (pc' := 102) rfl rfl ?_
    refine gIconst X0 hx (v := (1 : Int32)) (hb hby at_102) (pc' := 103) rfl rfl ?_
    refine gNewP X0 hx hZ (hw _ (List.mem_of_getElem? (i := 2) rfl)) e0 (n := (1 : Int32)) (hb hby at_103) (by decide) (cap := 1) (by decide) (by decide) (by decide) (by decide) 1 (pc' := 105) rfl (fun T35 h35 b35 ck35 X35 e35 g35 E35 A35 => ?_)
    have H35 := H0.trans (CHr.ext E35 H0.1)
    have hk35 := Nat.le_trans (Nat.zero_le _) E35.1
    have s35_b := Safe.ext E35 H0.1 (Safe.new (Nat.le_of_eq g35.symm))
    have sz_b35 : h0.size ≤ b35 := Nat.le_trans (Nat.le_refl _) (Nat.le_of_eq g35.symm)
    have zs35 : h0.size ≤ h35.size := Nat.le_trans (Nat.le_refl _) E35.1
    have V35 : Arv Z h35 b35 ck35 .int (1 : Int32) [(.int (0 : Int32))] (.int (0 : Int32)) := A35
    refine gDup X35 hx (hb hby at_105) (pc' := 106) rfl rfl ?_
    refine gIconst X35 hx (v := (0 : Int32)) (hb hby at_106) (pc' := 107) rfl rfl ?_
    refine gIconst X35 hx (v := (0 : Int32)) (hb hby at_107) (pc' := 108) rfl rfl ?_
    refine gIastore X35 hx hZ e35 (x := (0 : Int32)) V35 (j := (0 : Int32)) (by decide) (by decide) 0 (by decide) (by simp) (hb hby at_108) (pc' := 109) rfl (fun T36 h36 X36 e36 W36 A36 => ?_)
    have S36 := s35_b
    have H36 := H35.trans (CHr.wr W36 S36 H35.1)
    have hk36 := Nat.le_trans hk35 (Nat.le_of_eq W36.size.symm)
    have s36_0 := Safe.wr W36 S36 H35.1 s35_b
    have zs36 : h0.size ≤ h36.size := by rw [W36.size]; exact zs35
    have N36 := Fr.snoc X36 (Fr.nil h0.size) sz_b35
    have V36 : Arv Z h36 b35 _ .int (1 : Int32) [(.int (0 : Int32))] (.int (0 : Int32)) := A36
    refine gStoreA X36 hx (hb hby at_109) (l' := #[.val (.int p0), .val (.int p1), .val (.int p2), .val (.int p3), .val (.int p4), .val (.int n), .val (.int l0), .val (.int l1), .val (.int l2), .val (.int gp1), .val (.int gp2), .val (.int t0), .val (.int be1), .val (.int be2), .val (.int sv1), .val (.int sv2), .val (.int l0), .val (.ref b35), .unset, .unset, .unset, .unset]) (pc' := 111) rfl rfl rfl ?_
    refine gIconst X36 hx (v := (1 : Int32)) (hb hby at_111) (pc' := 112) rfl rfl ?_
    refine gNewP X36 hx hZ (hw _ (List.mem_of_getElem? (i := 2) rfl)) e36 (n := (1 : Int32)) (hb hby at_112) (by decide) (cap := 1) (by decide) (by decide) (by decide) (by decide) 1 (pc' := 114) rfl (fun T37 h37 b37 ck37 X37 e37 g37 E37 A37 => ?_)
    have ne_b35_b37 : b35 ≠ b37 := Nat.ne_of_lt (Nat.lt_of_lt_of_eq V36.lt g37.symm)
    have H37 := H36.trans (CHr.ext E37 H36.1)
    have hk37 := Nat.le_trans hk36 E37.1
    have s37_0 := Safe.ext E37 H36.1 s36_0
    have s37_b := Safe.ext E37 H36.1 (Safe.new (Nat.le_of_eq g37.symm))
    have f37_0 := V36.ext E37
    have sz_b37 : h0.size ≤ b37 := Nat.le_trans zs36 (Nat.le_of_eq g37.symm)
    have zs37 : h0.size ≤ h37.size := Nat.le_trans zs36 E37.1
    have V37 : Arv Z h37 b37 ck37 .int (1 : Int32) [(.int (0 : Int32))] (.int (0 : Int32)) := A37
    refine gDup X37 hx (hb hby at_114) (pc' := 115) rfl rfl ?_
    refine gIconst X37 hx (v := (0 : Int32)) (hb hby at_115) (pc' := 116) rfl rfl ?_
    refine gLoadI X37 hx (hb hby at_116) (pc' := 118) rfl rfl ?_
    refine gIastore X37 hx hZ e37 (x := t0) V37 (j := (0 : Int32)) (by decide) (by decide) 0 (by decide) (by simp) (hb hby at_118) (pc' := 119) rfl (fun T38 h38 X38 e38 W38 A38 => ?_)
    have S38 := s37_b
    have H38 := H37.trans (CHr.wr W38 S38 H37.1)
    have hk38 := Nat.le_trans hk37 (Nat.le_of_eq W38.size.symm)
    have s38_0 := Safe.wr W38 S38 H37.1 s37_0
    have s38_1 := Safe.wr W38 S38 H37.1 s37_b
    have f38_0 := f37_0.other W38 ne_b35_b37
    have zs38 : h0.size ≤ h38.size := by rw [W38.size]; exact zs37
    have N38 := Fr.snoc X38 N36 sz_b37
    have V38 : Arv Z h38 b37 _ .int (1 : Int32) [(.int t0)] (.int (0 : Int32)) := A38
    refine gStoreA X38 hx (hb hby at_119) (l' := #[.val (.int p0), .val (.int p1), .val (.int p2), .val (.int p3), .val (.int p4), .val (.int n), .val (.int l0), .val (.int l1), .val (.int l2), .val (.int gp1), .val (.int gp2), .val (.int t0), .val (.int be1), .val (.int be2), .val (.int sv1), .val (.int sv2), .val (.int l0), .val (.ref b35), .val (.ref b37), .unset, .unset, .unset]) (pc' := 121) rfl rfl rfl ?_
    refine gGoto X38 hx (hb hby at_121) (pc' := 215) (by decide) (by decide) ?_
    refine gLoadI X38 hx (hb hby at_215) (pc' := 217) rfl rfl ?_
    refine gLdc X38 hx hZ hown (hw _ (List.mem_of_getElem? (i := 0) rfl)) (hb hby at_217) (pc' := 219) rfl ?_
    refine gIand X38 hx (hb hby at_219) (pc' := 220) rfl ?_
    refine gLoadI X38 hx (hb hby at_220) (pc' := 222) rfl rfl ?_
    refine gIconst X38 hx (v := (1 : Int32)) (hb hby at_222) (pc' := 223) rfl rfl ?_
    refine gIadd X38 hx (hb hby at_223) (pc' := 224) rfl ?_
    refine gIrem X38 hx (hb hby at_224) (pc' := 225) (fun z => by have q := congrArg Int32.toInt z; rw [Jvm.Kit.i32_add (by omega) (by omega)] at q; have z0 : (0 : Int32).toInt = 0 := rfl; omega) rfl ?_
    generalize hg_i : ((p4 &&& (2147483647 : Int32)) % (l0 + (1 : Int32))) = i
    have h_i : 0 ≤ i.toInt := by rw [← hg_i]; exact own_idx _ _ h_len.1 h_len.2
    refine gStoreI X38 hx (hb hby at_225) (l' := #[.val (.int p0), .val (.int p1), .val (.int p2), .val (.int p3), .val (.int p4), .val (.int n), .val (.int l0), .val (.int l1), .val (.int l2), .val (.int gp1), .val (.int gp2), .val (.int t0), .val (.int be1), .val (.int be2), .val (.int sv1), .val (.int sv2), .val (.int l0), .val (.ref b35), .val (.ref b37), .val (.int i), .unset, .unset]) (pc' := 227) rfl rfl ?_
    refine gLoadI X38 hx (hb hby at_227) (pc' := 229) rfl rfl ?_
    refine gIconst X38 hx (v := (3 : Int32)) (hb hby at_229) (pc' := 230) rfl rfl ?_
    refine gIcmpLt X38 hx (hb hby at_230) (pc' := 253) (by decide) (by decide) (pn := 233) rfl (fun (c230 : n.toInt < (3 : Int)) => ?_) (fun (c230 : (3 : Int) ≤ n.toInt) => ?_)
    · refine gLoadI X38 hx (hb hby at_253) (pc' := 255) rfl rfl ?_
      refine gIconst X38 hx (v := (2 : Int32)) (hb hby at_255) (pc' := 256) rfl rfl ?_
      refine gIcmpLt X38 hx (hb hby at_256) (pc' := 279) (by decide) (by decide) (pn := 259) rfl (fun (c256 : n.toInt < (2 : Int)) => ?_) (fun (c256 : (2 : Int) ≤ n.toInt) => ?_)
      · refine gLoadI X38 hx (hb hby at_279) (pc' := 281) rfl rfl ?_
        refine gLoadI X38 hx (hb hby at_281) (pc' := 283) rfl rfl ?_
        refine gIadd X38 hx (hb hby at_283) (pc' := 284) rfl ?_
        refine gStoreI X38 hx (hb hby at_284) (l' := #[.val (.int p0), .val (.int p1), .val (.int p2), .val (.int p3), .val (.int p4), .val (.int n), .val (.int l0), .val (.int l1), .val (.int l2), .val (.int gp1), .val (.int gp2), .val (.int t0), .val (.int be1), .val (.int be2), .val (.int sv1), .val (.int sv2), .val (.int l0), .val (.ref b35), .val (.ref b37), .val (.int i), .val (.int (t0 + i)), .unset]) (pc' := 286) rfl rfl ?_
        refine gNew X38 hx hZ hown (hw _ (List.mem_of_getElem? (i := 3) rfl)) (hw _ (List.mem_of_getElem? (i := 4) rfl)) (hw _ (List.mem_of_getElem? (i := 5) rfl)) e38 (hb hby at_286) (pc' := 289) rfl (by decide) (by decide) (fun T39 h39 b39 X39 e39 g39 E39 A39 D39 => ?_)
        have ne_b35_b39 : b35 ≠ b39 := Nat.ne_of_lt (Nat.lt_of_lt_of_eq f38_0.lt g39.symm)
        have ne_b37_b39 : b37 ≠ b39 := Nat.ne_of_lt (Nat.lt_of_lt_of_eq V38.lt g39.symm)
        have H39 := H38.trans (CHr.ext E39 H38.1)
        have hk39 := Nat.le_trans hk38 E39.1
        have s39_0 := Safe.ext E39 H38.1 s38_0
        have s39_1 := Safe.ext E39 H38.1 s38_1
        have s39_b := Safe.ext E39 H38.1 (Safe.new (Nat.le_of_eq g39.symm))
        have f39_0 := f38_0.ext E39
        have f39_1 := V38.ext E39
        have sz_b39 : h0.size ≤ b39 := Nat.le_trans zs38 (Nat.le_of_eq g39.symm)
        have zs39 : h0.size ≤ h39.size := Nat.le_trans zs38 E39.1
        have F39_text : Fld Z h39 b39 "com/example/clausewright/clausewright/layout/Block" "text" "Ljava/lang/String;" .null := D39 (Or.inr (hw _ (List.mem_of_getElem? (i := 21) rfl))) (ty := (.object "java/lang/String")) (by decide)
        have F39_line : Fld Z h39 b39 "com/example/clausewright/clausewright/layout/Block" "line" "I" (.int (0 : Int32)) := D39 (Or.inr (hw _ (List.mem_of_getElem? (i := 23) rfl))) (ty := .int) (by decide)
        have F39_blockStarts : Fld Z h39 b39 "com/example/clausewright/clausewright/layout/Block" "blockStarts" "[I" .null := D39 (Or.inr (hw _ (List.mem_of_getElem? (i := 25) rfl))) (ty := (.array .int)) (by decide)
        have F39_textStarts : Fld Z h39 b39 "com/example/clausewright/clausewright/layout/Block" "textStarts" "[I" .null := D39 (Or.inr (hw _ (List.mem_of_getElem? (i := 27) rfl))) (ty := (.array .int)) (by decide)
        refine gDup X39 hx (hb hby at_289) (pc' := 290) rfl rfl ?_
        refine gLdcO X39 hx hZ hown (hw _ (List.mem_of_getElem? (i := 6) rfl)) wS e39 hS hk39 hEL H39 (hb hby at_290) (pc' := 292) rfl (n := 0) (by decide) (by decide) (by decide) (by decide) (fun a40 T40 h40 k40 X40 e40 E40 hS hk40 hZ hown C40 H40 => ?_)
        have s40_0 := C40.safe f39_0.lt s39_0
        have s40_1 := C40.safe f39_1.lt s39_1
        have s40_2 := C40.safe A39.lt s39_b
        have f40_0 := f39_0.ext E40
        have f40_1 := f39_1.ext E40
        have f40_2 := A39.ext E40
        have f40_3 := F39_text.ext E40
        have f40_4 := F39_line.ext E40
        have f40_5 := F39_blockStarts.ext E40
        have f40_6 := F39_textStarts.ext E40
        have zs40 : h0.size ≤ h40.size := Nat.le_trans zs39 E40.1
        refine gIconst X40 hx (v := (0 : Int32)) (hb hby at_292) (pc' := 293) rfl rfl ?_
        refine gLoadA X40 hx (hb hby at_293) (pc' := 295) rfl rfl rfl ?_
        refine gLoadA X40 hx (hb hby at_295) (pc' := 297) rfl rfl rfl ?_
        refine gCallI X40 hx hZ (y := (⟨"com/example/clausewright/clausewright/layout/Block", "<init>", "(Ljava/lang/String;I[I[I)V"⟩ : MethodName)) rfl hown e40 (by rw [hml]; rfl) (hw _ (List.mem_of_getElem? (i := 14) rfl)) (hw _ (List.mem_of_getElem? (i := 15) rfl)) (hw _ (List.mem_of_getElem? (i := 5) rfl)) (hw _ (List.mem_of_getElem? (i := 16) rfl)) (by decide) (argsL := [(.ref a40), (.int (0 : Int32)), (.ref b35), (.ref b37)]) (st := [(.ref b39)]) (c_init l Z a0 hw b39 a40 b35 b37 (0 : Int32) _ _ _ _ h0.size h40 sz_b39 f40_2 f40_3 f40_4 f40_5 f40_6) (lenOf pd_2 rfl) (hb hby at_297) (pc' := 300) rfl rfl (by decide) (W := 1) (Nat.le_of_eq rfl) (by decide) (by decide) (by decide) ?_
        intro T41 v41 L41 X41 hQ41
        obtain ⟨rfl, Nq41, Kq41, Eq41, Fb41, Ft41⟩ := hQ41
        have N41 := Fr.app N38 Nq41
        have H41 := H40.trans (CHr.keep Kq41 (sfS s40_2 sf0) H40.1)
        have hk41 := Nat.le_trans hk40 Kq41.1
        have s41_0 := Safe.keep Kq41 (sfS s40_2 sf0) H40.1 s40_0
        have s41_1 := Safe.keep Kq41 (sfS s40_2 sf0) H40.1 s40_1
        have s41_2 := Safe.keep Kq41 (sfS s40_2 sf0) H40.1 s40_2
        have f41_0 := f40_0.keep Kq41 (ninS ne_b35_b39 nin0)
        have f41_1 := f40_1.keep Kq41 (ninS ne_b37_b39 nin0)
        refine gStoreA X41 hx (hb hby at_300) (l' := #[.val (.int p0), .val (.int p1), .val (.int p2), .val (.int p3), .val (.int p4), .val (.int n), .val (.int l0), .val (.int l1), .val (.int l2), .val (.int gp1), .val (.int gp2), .val (.int t0), .val (.int be1), .val (.int be2), .val (.int sv1), .val (.int sv2), .val (.int l0), .val (.ref b35), .val (.ref b37), .val (.int i), .val (.int (t0 + i)), .val (.ref b39)]) (pc' := 302) rfl rfl rfl ?_
        refine gLoadA X41 hx (hb hby at_302) (pc' := 304) rfl rfl rfl ?_
        refine gLoadI X41 hx (hb hby at_304) (pc' := 306) rfl rfl ?_
        refine gCallV X41 hx hZ (y := (⟨"com/example/clausewright/clausewright/layout/Block", "start", "(I)I"⟩ : MethodName)) hown rfl (by rw [hml]; rfl) Eq41 (hw _ (List.mem_of_getElem? (i := 28) rfl)) (hw _ (List.mem_of_getElem? (i := 29) rfl)) (hw _ (List.mem_of_getElem? (i := 31) rfl)) (hw _ (List.mem_of_getElem? (i := 30) rfl)) (hw _ (List.mem_of_getElem? (i := 5) rfl)) (hw _ (List.mem_of_getElem? (i := 32) rfl)) (by decide) (argsL := [(.int i)]) (st := []) (c_start_1 l Z a0 hw b39 b35 b37 _ _ i t0 _ h_i Fb41 Ft41 f41_0 f41_1) (lenOf pd_1 rfl) (hb hby at_306) (pc' := 309) rfl rfl (by decide) (W := 0) (Nat.le_of_eq rfl) (by decide) (by decide) (by decide) ?_
        intro T42 v42 L42 X42 hQ42
        obtain ⟨r, rfl, eq42, rfl, hcs⟩ := hQ42
        rw [List.append_nil] at X42
        refine gLoadI X42 hx (hb hby at_309) (pc' := 311) rfl rfl ?_
        refine gIcmpNe X42 hx (hb hby at_311) (pc' := 318) (by decide) (by decide) (pn := 314) rfl (fun (c311 : ¬ r = (t0 + i)) => ?_) (fun (c311 : r = (t0 + i)) => ?_)
        · exact absurd ((hcs h_i).trans (by rw [Int32.sub_zero])) c311
        · refine gIconst X42 hx (v := (1 : Int32)) (hb hby at_314) (pc' := 315) rfl rfl ?_
          refine gGoto X42 hx (hb hby at_315) (pc' := 319) (by decide) (by decide) ?_
          exact gRetHN X42 hx hlk hret (by simp) (hb hby at_319) (w := (1 : Int32)) rfl eq42 hS hk41 hZ hEL H41 (by decide) (by decide) (⟨rfl, N41⟩)
      · exact absurd c256 (by omega)
    · exact absurd c230 (by omega)
set_option maxRecDepth 65536 in
set_option maxHeartbeats 40000000 in
theorem comes_1 {Post : Tables → Env → Array Value → State → Outcome → State → Prop} (hpost : ∀ tb e args s v u, (limb_1_1.after args s (.returned v) u = true ∧ limb_1_2.after args s (.returned v) u = true ∧ True) → ReturnedEndW s (.returned v) u (Jvm.fieldLocs frame_1_writes args s ++ Jvm.arrayLocs frame_1_arrays args s ++ Jvm.staticLocs frame_1_statics s) 16 1152 → Post tb e args s (.returned v) u) :
    ArmFor flags0 classFile x code maxLocals ret World_1 tables_1 room_1 Calls_1 rest_1 Pre_1 Post := by
  intro l hfl _ _ p e ha hc hk s m args below hf hA hF happ hP
  obtain ⟨hcalls, hrest, hpre⟩ := hP
  obtain ⟨-, -, -, hnamed, -, -, -, hat⟩ := (Spec.applies_iff hf).mp happ
  obtain ⟨hg, hn⟩ := and_e (Cond.before_iff.mp (show (Jvm.Cond.and given_1 narrow_1).before args s = true from hpre))
  obtain ⟨hcount, hv⟩ := and_e hg
  obtain ⟨ha0, hv0⟩ := and_e hv
  obtain ⟨ha1, hv1⟩ := and_e hv0
  obtain ⟨ha2, hv2⟩ := and_e hv1
  obtain ⟨ha3, hv3⟩ := and_e hv2
  obtain ⟨w0, w1, w2, w3, w4, rfl⟩ : ∃ w0 w1 w2 w3 w4 : Value, args = #[w0, w1, w2, w3, w4] := by
    have hs : args.size = 5 := by simpa [Cond.value, given_1] using hcount
    obtain ⟨L⟩ := args
    match L, hs with
    | [w0, w1, w2, w3, w4], _ => exact ⟨w0, w1, w2, w3, w4, rfl⟩
  have hw := fun d (hd : d ∈ tables_1) => atoms_spec (ws := Jvm.Cond.code x code maxLocals ret :: tables_1) hat d (List.mem_cons_of_mem _ hd)
  have hfit : Fit s := fun {y c} hc i hi => by
    obtain ⟨ha, rfl⟩ := Array.getElem?_eq_some_iff.mp hc
    have q := List.all_eq_true.mp ((Array.all_eq_true_iff_forall_mem.mp hF) _ (Array.getElem_mem ha)) i (List.mem_range.mpr hi)
    simpa [Array.getElem?_eq_getElem hi] using q
  obtain ⟨i0, ei0⟩ := is_v ha0
  obtain rfl : w0 = (.int i0) := Option.some.inj ei0
  obtain ⟨i1, ei1⟩ := is_v ha1
  obtain rfl : w1 = (.int i1) := Option.some.inj ei1
  obtain ⟨i2, ei2⟩ := is_v ha2
  obtain rfl : w2 = (.int i2) := Option.some.inj ei2
  obtain ⟨i3, ei3⟩ := is_v ha3
  obtain rfl : w3 = (.int i3) := Option.some.inj ei3
  obtain ⟨i4, ei4⟩ := is_v hv3
  obtain rfl : w4 = (.int i4) := Option.some.inj ei4
  obtain ⟨n, o, h1, h2, h3, _, L, rfl, ⟨rfl, N⟩, hCH, hq⟩ := c_law l s _ hw i0 i1 i2 i3 i4 s.heap EW.nil p e ha hc hk s m _ below hf ((Spec.applies_iff_loose hf).mp happ).1 ⟨rfl, State.Warmed39.refl s, rfl, (fun _ q => nomatch q), fun _ q => nomatch q⟩ trivial
  refine ⟨n, _, h1, h2, h3, hpost _ _ _ _ _ _ ⟨Cond.after_iff.mpr rfl, Cond.after_iff.mpr (eq_i res_at (Term.int_eval (1)) rfl), trivial⟩ ⟨hq.1, hq.2.1, hq.2.2.1, (hq.2.2.2.sift fun y hy => Or.inr (N y hy)).mono (by decide) (by decide)⟩⟩
theorem main_1_1 : Claimed_1_1 := comes_1 fun _ _ _ _ _ _ h hF => ⟨h.1, hF⟩
theorem main_1_2 : Claimed_1_2 := comes_1 fun _ _ _ _ _ _ h hF => ⟨h.2.1, hF⟩
end Jvm.Pilot.@@N@@
namespace Jvm.Pilot.@@N@@
open Jvm Jvm.ClassFile Sem Op Lib Jvm.Free Jvm.Stand Jvm.Pilot.@@N@@.Jvm.D
/-! MADE BY PROGRAM (witnessworld.py) out of the Statement's table words and the real class files: 15 classes; the members and pool entries that the words name. The judged class is class 1, her method 1. -/
namespace start1
open Jvm.ClassFile
def u (s : String) : CpInfo := .utf8 (stringToUtf16 s)
/-- a pool by its gaps: so many unusable entries, then the entry; so many at the end -/
def gap : Nat → List CpInfo → List CpInfo
  | 0, r => r
  | n + 1, r => .unusable :: gap n r
def poolList (es : List (Nat × CpInfo)) (last : Nat) : List CpInfo := es.foldr (fun e r => gap e.1 (e.2 :: r)) (gap last [])
def pool (es : List (Nat × CpInfo)) (last : Nat) : Array CpInfo := ⟨poolList es last⟩
def fileOf (pool : Array CpInfo) (this : Nat) (attrs : Array Attribute := #[]) (ms : Array MethodInfo := #[]) (fl : Nat := 33) (sup : Nat := 0) (ifs : Array Nat := #[]) (fds : Array FieldInfo := #[]) : ClassFile where
  minorVersion := 0
  majorVersion := 65
  constantPool := pool
  accessFlags := fl
  thisClass := this
  superClass := sup
  interfaces := ifs
  fields := fds
  methods := ms
  attributes := attrs
def plain (name : String) (sup : Option ClassId) : Class where
  name := name
  kind := .ordinary
  loader := none
  accessFlags := 33
  super := sup
  interfaces := #[]
  cf := none
  fields := #[]
  methods := #[]
  instanceTypes := #[]
  staticTypes := #[]
  resolved := #[]
  callSites := []
  init := .initialized
  statics := none
  mirror := none

def pool0 : Array CpInfo := pool [(5, u "<init>"), (0, u "()V"), (1, .class_ 10), (1, u "java/lang/Object")] 113

def k0c0 : Code := { maxStack := 0, maxLocals := 1, code := object_method_1_code, exceptionTable := #[], attributes := #[] }
def k0m0 : Method := { name := "<init>", desc := "()V", sig := { parameters := [], returnType := none }, accessFlags := 1, code := some k0c0 }
/-- java/lang/Object -/
def k0 : Class := { plain "java/lang/Object" none with
  accessFlags := 33
  interfaces := #[]
  cf := some (fileOf pool0 8 #[] #[{ accessFlags := 1, nameIndex := 5, descriptorIndex := 6, attributes := #[] }] 33 0 #[] #[])
  fields := #[]
  methods := #[k0m0]
  instanceTypes := #[]
  staticTypes := #[]
  resolved := Array.replicate 124 none
  statics := none }

def pool1 : Array CpInfo := pool [(2, .class_ 4), (1, u "java/lang/Object"), (0, u "<init>"), (0, u "()V"), (0, .integer 2147483647), (0, .integer 1048575), (0, .class_ 10), (0, u "com/example/clausewright/clausewright/layout/Block"), (0, .string 12), (0, u ""), (0, .methodref 9 14), (0, .nameAndType 5 15), (0, u "(Ljava/lang/String;I[I[I)V"), (0, .methodref 9 17), (0, .nameAndType 18 19), (0, u "start"), (0, u "(I)I"), (0, .class_ 21), (0, u "com/example/clausewright/clausewright/layout/BlockStartPinLaw"), (2, u "law"), (0, u "(IIIII)Z")] 5

def k1m0 : Method := { name := "<init>", desc := "()V", sig := { parameters := [], returnType := none }, accessFlags := 2, code := none }
def k1c1 : Code := { maxStack := 6, maxLocals := 22, code := code, exceptionTable := #[], attributes := #[] }
def k1m1 : Method := { name := "law", desc := "(IIIII)Z", sig := { parameters := [.int, .int, .int, .int, .int], returnType := some .boolean }, accessFlags := 9, code := some k1c1 }
/-- com/example/clausewright/clausewright/layout/BlockStartPinLaw -/
def k1 : Class := { plain "com/example/clausewright/clausewright/layout/BlockStartPinLaw" (some 0) with
  accessFlags := 49
  interfaces := #[]
  cf := some (fileOf pool1 20 #[] #[{ accessFlags := 2, nameIndex := 5, descriptorIndex := 6, attributes := #[] }, { accessFlags := 9, nameIndex := 24, descriptorIndex := 25, attributes := #[] }] 49 2 #[] #[])
  fields := #[]
  methods := #[k1m0, k1m1]
  instanceTypes := #[]
  staticTypes := #[]
  resolved := Array.replicate 31 none
  statics := none }

def pool2 : Array CpInfo := pool [(1, .methodref 2 3), (0, .class_ 4), (0, .nameAndType 5 6), (0, u "java/lang/Object"), (0, u "<init>"), (0, u "()V"), (0, .fieldref 8 9), (0, .class_ 10), (0, .nameAndType 11 12), (0, u "com/example/clausewright/clausewright/layout/Block"), (0, u "text"), (0, u "Ljava/lang/String;"), (0, .fieldref 8 14), (0, .nameAndType 15 16), (0, u "line"), (0, u "I"), (0, .fieldref 8 18), (0, .nameAndType 19 20), (0, u "blockStarts"), (0, u "[I"), (0, .fieldref 8 22), (0, .nameAndType 23 20), (0, u "textStarts"), (0, .methodref 25 26), (0, .class_ 27), (0, .nameAndType 28 29), (0, u "java/util/Arrays"), (0, u "binarySearch"), (0, u "([II)I"), (8, u "start"), (0, u "(I)I"), (0, u "(Ljava/lang/String;I[I[I)V")] 7

def k2c0 : Code := { maxStack := 2, maxLocals := 5, code := prog_19_method_1_code, exceptionTable := #[], attributes := #[] }
def k2m0 : Method := { name := "<init>", desc := "(Ljava/lang/String;I[I[I)V", sig := { parameters := [(.object "java/lang/String"), .int, (.array .int), (.array .int)], returnType := none }, accessFlags := 0, code := some k2c0 }
def k2c1 : Code := { maxStack := 3, maxLocals := 4, code := prog_19_method_4_code, exceptionTable := #[], attributes := #[] }
def k2m1 : Method := { name := "start", desc := "(I)I", sig := { parameters := [.int], returnType := some .int }, accessFlags := 1, code := some k2c1 }
/-- com/example/clausewright/clausewright/layout/Block -/
def k2 : Class := { plain "com/example/clausewright/clausewright/layout/Block" (some 0) with
  accessFlags := 49
  interfaces := #[]
  cf := some (fileOf pool2 8 #[] #[{ accessFlags := 0, nameIndex := 5, descriptorIndex := 40, attributes := #[] }, { accessFlags := 1, nameIndex := 38, descriptorIndex := 39, attributes := #[] }] 49 2 #[] #[{ accessFlags := 18, nameIndex := 11, descriptorIndex := 12, attributes := #[] }, { accessFlags := 18, nameIndex := 15, descriptorIndex := 16, attributes := #[] }, { accessFlags := 18, nameIndex := 19, descriptorIndex := 20, attributes := #[] }, { accessFlags := 18, nameIndex := 23, descriptorIndex := 20, attributes := #[] }])
  fields := #[{ name := "text", type := (.object "java/lang/String"), accessFlags := 18, slot := 0, constantValue := 0 }, { name := "line", type := .int, accessFlags := 18, slot := 1, constantValue := 0 }, { name := "blockStarts", type := (.array .int), accessFlags := 18, slot := 2, constantValue := 0 }, { name := "textStarts", type := (.array .int), accessFlags := 18, slot := 3, constantValue := 0 }]
  methods := #[k2m0, k2m1]
  instanceTypes := #[(.object "java/lang/String"), .int, (.array .int), (.array .int)]
  staticTypes := #[]
  resolved := Array.replicate 48 none
  statics := none }

def pool3 : Array CpInfo := pool [(1, .class_ 2), (0, u "java/io/Serializable"), (0, .class_ 4), (0, u "java/lang/Object")] 2

/-- java/io/Serializable -/
def k3 : Class := { plain "java/io/Serializable" (some 0) with
  accessFlags := 1537
  interfaces := #[]
  cf := some (fileOf pool3 1 #[] #[] 1537 3 #[] #[])
  fields := #[]
  methods := #[]
  instanceTypes := #[]
  staticTypes := #[]
  resolved := Array.replicate 7 none
  statics := none }

def pool4 : Array CpInfo := pool [(1, .class_ 2), (0, u "java/lang/Comparable"), (0, .class_ 4), (0, u "java/lang/Object")] 7

/-- java/lang/Comparable -/
def k4 : Class := { plain "java/lang/Comparable" (some 0) with
  accessFlags := 1537
  interfaces := #[]
  cf := some (fileOf pool4 1 #[] #[] 1537 3 #[] #[])
  fields := #[]
  methods := #[]
  instanceTypes := #[]
  staticTypes := #[]
  resolved := Array.replicate 12 none
  statics := none }

def pool5 : Array CpInfo := pool [(2, .class_ 4), (1, u "java/lang/CharSequence"), (42, .class_ 48), (0, u "java/lang/CharSequence$1CodePointIterator"), (10, .class_ 60), (0, u "java/lang/CharSequence$1CharIterator"), (5, .class_ 67), (0, u "java/lang/Object")] 63

/-- java/lang/CharSequence -/
def k5 : Class := { plain "java/lang/CharSequence" (some 0) with
  accessFlags := 1537
  interfaces := #[]
  cf := some (fileOf pool5 2 #[.nestMembers #[47, 59]] #[] 1537 66 #[] #[])
  fields := #[]
  methods := #[]
  instanceTypes := #[]
  staticTypes := #[]
  resolved := Array.replicate 131 none
  statics := none }

def pool6 : Array CpInfo := pool [(1, .class_ 2), (0, u "java/lang/constant/Constable"), (0, .class_ 4), (0, u "java/lang/Object")] 6

/-- java/lang/constant/Constable -/
def k6 : Class := { plain "java/lang/constant/Constable" (some 0) with
  accessFlags := 1537
  interfaces := #[]
  cf := some (fileOf pool6 1 #[] #[] 1537 3 #[] #[])
  fields := #[]
  methods := #[]
  instanceTypes := #[]
  staticTypes := #[]
  resolved := Array.replicate 11 none
  statics := none }

def pool7 : Array CpInfo := pool [(1, .class_ 2), (0, u "java/lang/constant/ConstantDesc"), (0, .class_ 4), (0, u "java/lang/Object")] 32

/-- java/lang/constant/ConstantDesc -/
def k7 : Class := { plain "java/lang/constant/ConstantDesc" (some 0) with
  accessFlags := 1537
  interfaces := #[]
  cf := some (fileOf pool7 1 #[] #[] 1537 3 #[] #[])
  fields := #[]
  methods := #[]
  instanceTypes := #[]
  staticTypes := #[]
  resolved := Array.replicate 37 none
  statics := none }

def pool8 : Array CpInfo := pool [(2, .class_ 4), (1, u "java/lang/Object"), (0, u "<init>"), (0, u "()V"), (3, .class_ 12), (1, u "java/lang/String"), (0, u "value"), (0, u "[B"), (2, u "coder"), (0, u "B"), (2, u "hash"), (0, u "I"), (2, u "hashIsZero"), (0, u "Z"), (13, u "COMPACT_STRINGS"), (534, .class_ 576), (0, u "java/lang/CharSequence"), (22, u "CASE_INSENSITIVE_ORDER"), (0, u "Ljava/util/Comparator;"), (500, u "serialPersistentFields"), (0, u "[Ljava/io/ObjectStreamField;"), (0, .class_ 1104), (0, u "java/lang/String$CaseInsensitiveComparator"), (1, .class_ 1107), (0, u "java/io/Serializable"), (0, .class_ 1109), (0, u "java/lang/Comparable"), (0, .class_ 1111), (0, u "java/lang/constant/Constable"), (0, .class_ 1113), (0, u "java/lang/constant/ConstantDesc"), (2, u "serialVersionUID"), (0, u "J"), (3, u "REPL"), (0, u "C"), (2, u "LATIN1"), (1, u "UTF16")] 323

def k8m0 : Method := { name := "<init>", desc := "()V", sig := { parameters := [], returnType := none }, accessFlags := 1, code := none }
/-- java/lang/String -/
def k8 : Class := { plain "java/lang/String" (some 0) with
  accessFlags := 49
  interfaces := #[3, 4, 5, 6, 7]
  cf := some (fileOf pool8 10 #[.nestMembers #[1103]] #[{ accessFlags := 1, nameIndex := 5, descriptorIndex := 6, attributes := #[] }] 49 2 #[1106, 1108, 575, 1110, 1112] #[{ accessFlags := 18, nameIndex := 13, descriptorIndex := 14, attributes := #[] }, { accessFlags := 18, nameIndex := 17, descriptorIndex := 18, attributes := #[] }, { accessFlags := 2, nameIndex := 21, descriptorIndex := 22, attributes := #[] }, { accessFlags := 2, nameIndex := 25, descriptorIndex := 26, attributes := #[] }, { accessFlags := 26, nameIndex := 1116, descriptorIndex := 1117, attributes := #[] }, { accessFlags := 24, nameIndex := 40, descriptorIndex := 26, attributes := #[] }, { accessFlags := 26, nameIndex := 1101, descriptorIndex := 1102, attributes := #[] }, { accessFlags := 26, nameIndex := 1121, descriptorIndex := 1122, attributes := #[] }, { accessFlags := 25, nameIndex := 599, descriptorIndex := 600, attributes := #[] }, { accessFlags := 24, nameIndex := 1125, descriptorIndex := 18, attributes := #[] }, { accessFlags := 24, nameIndex := 1127, descriptorIndex := 18, attributes := #[] }])
  fields := #[{ name := "value", type := (.array .byte), accessFlags := 18, slot := 0, constantValue := 0 }, { name := "coder", type := .byte, accessFlags := 18, slot := 1, constantValue := 0 }, { name := "hash", type := .int, accessFlags := 2, slot := 2, constantValue := 0 }, { name := "hashIsZero", type := .boolean, accessFlags := 2, slot := 3, constantValue := 0 }, { name := "serialVersionUID", type := .long, accessFlags := 26, slot := 0, constantValue := 0 }, { name := "COMPACT_STRINGS", type := .boolean, accessFlags := 24, slot := 1, constantValue := 0 }, { name := "serialPersistentFields", type := (.array (.object "java/io/ObjectStreamField")), accessFlags := 26, slot := 2, constantValue := 0 }, { name := "REPL", type := .char, accessFlags := 26, slot := 3, constantValue := 0 }, { name := "CASE_INSENSITIVE_ORDER", type := (.object "java/util/Comparator"), accessFlags := 25, slot := 4, constantValue := 0 }, { name := "LATIN1", type := .byte, accessFlags := 24, slot := 5, constantValue := 0 }, { name := "UTF16", type := .byte, accessFlags := 24, slot := 6, constantValue := 0 }]
  methods := #[k8m0]
  instanceTypes := #[(.array .byte), .byte, .int, .boolean]
  staticTypes := #[.long, .boolean, (.array (.object "java/io/ObjectStreamField")), .char, (.object "java/util/Comparator"), .byte, .byte]
  resolved := Array.replicate 1451 none
  statics := none }

def pool9 : Array CpInfo := pool [(2, .class_ 4), (1, u "java/lang/Object"), (0, u "<init>"), (0, u "()V"), (7, .class_ 16), (1, u "java/util/Arrays"), (57, .class_ 76), (1, u "java/util/Arrays$NaturalOrder"), (36, .class_ 115), (1, u "java/util/Arrays$LegacyMergeSort"), (1, u "Z"), (89, u "binarySearch0"), (1, .methodref 14 210), (0, .nameAndType 207 211), (0, u "([IIII)I"), (163, .class_ 376), (0, u "java/util/Arrays$ArrayList"), (68, u "$assertionsDisabled"), (269, u "MIN_ARRAY_SORT_GRAN"), (0, u "I"), (2, u "INSERTIONSORT_THRESHOLD"), (74, u "binarySearch"), (4, u "([II)I"), (175, .class_ 976), (0, u "java/util/Arrays$ArrayItr")] 52

def k9m0 : Method := { name := "<init>", desc := "()V", sig := { parameters := [], returnType := none }, accessFlags := 2, code := none }
def k9c1 : Code := { maxStack := 4, maxLocals := 2, code := jdk_65_method_57_code, exceptionTable := #[], attributes := #[] }
def k9m1 : Method := { name := "binarySearch", desc := "([II)I", sig := { parameters := [(.array .int), .int], returnType := some .int }, accessFlags := 9, code := some k9c1 }
def k9c2 : Code := { maxStack := 2, maxLocals := 8, code := jdk_65_method_59_code, exceptionTable := #[], attributes := #[] }
def k9m2 : Method := { name := "binarySearch0", desc := "([IIII)I", sig := { parameters := [(.array .int), .int, .int, .int], returnType := some .int }, accessFlags := 10, code := some k9c2 }
/-- java/util/Arrays -/
def k9 : Class := { plain "java/util/Arrays" (some 0) with
  accessFlags := 49
  interfaces := #[]
  cf := some (fileOf pool9 14 #[.nestMembers #[975, 375, 113, 74]] #[{ accessFlags := 2, nameIndex := 5, descriptorIndex := 6, attributes := #[] }, { accessFlags := 9, nameIndex := 794, descriptorIndex := 799, attributes := #[] }, { accessFlags := 10, nameIndex := 207, descriptorIndex := 211, attributes := #[] }] 49 2 #[] #[{ accessFlags := 26, nameIndex := 715, descriptorIndex := 716, attributes := #[] }, { accessFlags := 26, nameIndex := 719, descriptorIndex := 716, attributes := #[] }, { accessFlags := 4120, nameIndex := 445, descriptorIndex := 117, attributes := #[] }])
  fields := #[{ name := "MIN_ARRAY_SORT_GRAN", type := .int, accessFlags := 26, slot := 0, constantValue := 0 }, { name := "INSERTIONSORT_THRESHOLD", type := .int, accessFlags := 26, slot := 1, constantValue := 0 }, { name := "$assertionsDisabled", type := .boolean, accessFlags := 4120, slot := 2, constantValue := 0 }]
  methods := #[k9m0, k9m1, k9m2]
  instanceTypes := #[]
  staticTypes := #[.int, .int, .boolean]
  resolved := Array.replicate 1029 none
  statics := none }

def pool10 : Array CpInfo := pool [(1, u "java/lang/Cloneable"), (0, .class_ 1), (0, u "java/lang/Object"), (0, .class_ 3)] 3

/-- java/lang/Cloneable -/
def k10 : Class := { plain "java/lang/Cloneable" (some 0) with
  accessFlags := 1537
  interfaces := #[]
  cf := some (fileOf pool10 2 #[] #[] 1537 4 #[] #[])
  fields := #[]
  methods := #[]
  instanceTypes := #[]
  staticTypes := #[]
  resolved := Array.replicate 8 none
  statics := none }

/-- the primitive byte -/
def k11 : Class := { plain "byte" none with kind := .primitive 'B', accessFlags := 0x411 }
/-- [B -/
def k12 : Class := { plain "[B" (some 0) with kind := .array 11 .byte, interfaces := #[10, 3], accessFlags := 1041 }

/-- the primitive int -/
def k13 : Class := { plain "int" none with kind := .primitive 'I', accessFlags := 0x411 }
/-- [I -/
def k14 : Class := { plain "[I" (some 0) with kind := .array 13 .int, interfaces := #[10, 3], accessFlags := 1041 }

def heap : Heap := #[]
def classes : Array Class := #[k0, k1, k2, k3, k4, k5, k6, k7, k8, k9, k10, k11, k12, k13, k14]
def interned : List (Array UInt16 × Addr) := []
def slotsUsed : Nat := 0
def theMethod : MethodId := ⟨1, 1⟩
def args0 : Array Value := #[.int 5, .int 300, .int 17, .int 2, .int 3]
def aboutOver (below : List Frame) : State where
  vm := { classes := classes, interned := interned.toArray }
  heap := heap
  slotsUsed := slotsUsed
  threads := #[{ frames := .invoking theMethod args0 :: below }]
def below0 : List Frame := [.native { method := ⟨0, 0⟩, args := #[] }]
def about1 : State := aboutOver below0
def p0 : Program := .bare "" "" ""
def e0 : Env := launch0.env 0 0 0
theorem w_frames : about1.frames = Frame.invoking theMethod args0 :: below0 := rfl
set_option maxRecDepth 65536 in
theorem w_args : argsFit about1.vm theMethod args0 = true := by decide +kernel
set_option maxRecDepth 65536 in
theorem w_heap : heapFits about1 = true := by decide +kernel
set_option maxRecDepth 65536 in
theorem w_runnable : about1.curStatus? = some .runnable := by decide +kernel
set_option maxRecDepth 65536 in
theorem w_alone : about1.alone = true := by decide +kernel
set_option maxRecDepth 65536 in
theorem w_named : about1.methodNamed? x = some theMethod := by decide +kernel
set_option maxRecDepth 65536 in
theorem w_hears : about1.hears theMethod below0 = true := by decide +kernel
set_option maxRecDepth 65536 in
theorem w_ripe : about1.ripe theMethod args0 below0 = true := by decide +kernel
theorem w_running : about1.status = .running := rfl
set_option maxRecDepth 65536 in
theorem w_room : about1.hasRoom e0.platform room_1 = true :=
  launch0.hasRoom_least _ room_1 (by decide +kernel) (by decide +kernel) (by decide +kernel) (by decide +kernel) (by decide +kernel) (by decide +kernel)
theorem allAtoms_all (ts : List Jvm.Cond) (a : Array Jvm.Value) (st : Jvm.State) : (allAtoms ts).before a st = ts.all (fun c => c.before a st) := by
  induction ts with
  | nil => rfl
  | cons c t ih =>
    show (Jvm.Cond.and c (allAtoms t)).before a st = _
    rw [Jvm.Cond.before_and, ih, List.all_cons]
def words1 : List Jvm.Cond := Jvm.Cond.code x code maxLocals ret :: tables_1
/-- a 'code' word, met by the world's own term for the bytes: nothing is compared byte by byte -/
theorem code_word {y : MethodName} {bytes : ByteArray} {mx : Nat} {rt : Option FieldType} {a : Array Value} {s : State} {m : MethodId} {meth : Method} {c : Code} (h1 : s.methodNamed? y = some m) (h2 : s.vm.method? m = some meth) (h3 : meth.code = some c) (h4 : c.code = bytes)
    (h5 : (c.maxLocals == mx && c.exceptionTable.isEmpty && decide (c.maxStack ≤ mostOperands) && decide (meth.sig.returnType = rt) && !meth.locks && decide (parseMethodDescriptor y.desc = some meth.sig)) = true) : (Jvm.Cond.code y bytes mx rt).before a s = true := by
  simp only [Bool.and_eq_true, beq_iff_eq, Bool.not_eq_true', decide_eq_true_eq] at h5
  obtain ⟨⟨⟨⟨⟨g1, g2⟩, g3⟩, g4⟩, g5⟩, g6⟩ := h5
  simp [Cond.before, Cond.holds, Cond.value, h1, h2, h3, h4, g1, g2, g3, g4, g5, g6]
def isCode : Jvm.Cond → Bool
  | .code _ _ _ _ => true
  | _ => false
theorem all_split {L : List Jvm.Cond} {P : Jvm.Cond → Bool} (h1 : L.all (fun c => isCode c || P c) = true) (h2 : ∀ c ∈ L.filter isCode, P c = true) : L.all P = true := by
  refine List.all_eq_true.mpr fun c hc => ?_
  have h := List.all_eq_true.mp h1 c hc
  rcases Bool.eq_false_or_eq_true (isCode c) with hi | hi
  · exact h2 c (List.mem_filter.mpr ⟨hc, hi⟩)
  · simpa [hi] using h
set_option maxRecDepth 65536 in
theorem w_c0 : (Jvm.Cond.code x code maxLocals ret).before args0 about1 = true := code_word (m := ⟨1, 1⟩) (meth := k1m1) (c := k1c1) (by decide +kernel) rfl rfl rfl (by decide +kernel)
set_option maxRecDepth 65536 in
theorem w_c1 : (Jvm.Cond.code ({ cls := "com/example/clausewright/clausewright/layout/Block", name := "<init>", desc := "(Ljava/lang/String;I[I[I)V" } : Jvm.MethodName) prog_19_method_1_code (5 : Nat) (Option.none : Option Jvm.ClassFile.FieldType)).before args0 about1 = true := code_word (m := ⟨2, 0⟩) (meth := k2m0) (c := k2c0) (by decide +kernel) rfl rfl rfl (by decide +kernel)
set_option maxRecDepth 65536 in
theorem w_c2 : (Jvm.Cond.code ({ cls := "java/lang/Object", name := "<init>", desc := "()V" } : Jvm.MethodName) object_method_1_code (1 : Nat) (Option.none : Option Jvm.ClassFile.FieldType)).before args0 about1 = true := code_word (m := ⟨0, 0⟩) (meth := k0m0) (c := k0c0) (by decide +kernel) rfl rfl rfl (by decide +kernel)
set_option maxRecDepth 65536 in
theorem w_c3 : (Jvm.Cond.code ({ cls := "com/example/clausewright/clausewright/layout/Block", name := "start", desc := "(I)I" } : Jvm.MethodName) prog_19_method_4_code (4 : Nat) (Option.some Jvm.ClassFile.FieldType.int)).before args0 about1 = true := code_word (m := ⟨2, 1⟩) (meth := k2m1) (c := k2c1) (by decide +kernel) rfl rfl rfl (by decide +kernel)
set_option maxRecDepth 65536 in
theorem w_c4 : (Jvm.Cond.code ({ cls := "java/util/Arrays", name := "binarySearch", desc := "([II)I" } : Jvm.MethodName) jdk_65_method_57_code (2 : Nat) (Option.some Jvm.ClassFile.FieldType.int)).before args0 about1 = true := code_word (m := ⟨9, 1⟩) (meth := k9m1) (c := k9c1) (by decide +kernel) rfl rfl rfl (by decide +kernel)
set_option maxRecDepth 65536 in
theorem w_c5 : (Jvm.Cond.code ({ cls := "java/util/Arrays", name := "binarySearch0", desc := "([IIII)I" } : Jvm.MethodName) jdk_65_method_59_code (8 : Nat) (Option.some Jvm.ClassFile.FieldType.int)).before args0 about1 = true := code_word (m := ⟨9, 2⟩) (meth := k9m2) (c := k9c2) (by decide +kernel) rfl rfl rfl (by decide +kernel)
def codes1 : List Jvm.Cond := [Jvm.Cond.code x code maxLocals ret, Jvm.Cond.code ({ cls := "com/example/clausewright/clausewright/layout/Block", name := "<init>", desc := "(Ljava/lang/String;I[I[I)V" } : Jvm.MethodName) prog_19_method_1_code (5 : Nat) (Option.none : Option Jvm.ClassFile.FieldType), Jvm.Cond.code ({ cls := "java/lang/Object", name := "<init>", desc := "()V" } : Jvm.MethodName) object_method_1_code (1 : Nat) (Option.none : Option Jvm.ClassFile.FieldType), Jvm.Cond.code ({ cls := "com/example/clausewright/clausewright/layout/Block", name := "start", desc := "(I)I" } : Jvm.MethodName) prog_19_method_4_code (4 : Nat) (Option.some Jvm.ClassFile.FieldType.int), Jvm.Cond.code ({ cls := "java/util/Arrays", name := "binarySearch", desc := "([II)I" } : Jvm.MethodName) jdk_65_method_57_code (2 : Nat) (Option.some Jvm.ClassFile.FieldType.int), Jvm.Cond.code ({ cls := "java/util/Arrays", name := "binarySearch0", desc := "([IIII)I" } : Jvm.MethodName) jdk_65_method_59_code (8 : Nat) (Option.some Jvm.ClassFile.FieldType.int)]
set_option maxRecDepth 65536 in
theorem codes_eq : words1.filter isCode = codes1 := rfl
theorem w_codes : ∀ c ∈ words1.filter isCode, c.before args0 about1 = true := by
  rw [codes_eq]
  intro c hc
  simp only [codes1, List.mem_cons, List.not_mem_nil, or_false] at hc
  rcases hc with rfl | rfl | rfl | rfl | rfl | rfl
  · exact w_c0
  · exact w_c1
  · exact w_c2
  · exact w_c3
  · exact w_c4
  · exact w_c5
set_option maxRecDepth 65536 in
theorem w_t1 : (words1.take 24).all (fun c => isCode c || c.before args0 about1) = true := by decide +kernel
set_option maxRecDepth 65536 in
theorem w_t2 : (words1.drop 24).all (fun c => isCode c || c.before args0 about1) = true := by decide +kernel
theorem w_tables : (allAtoms (Jvm.Cond.code x code maxLocals ret :: tables_1)).before args0 about1 = true := by
  rw [allAtoms_all]
  show words1.all (fun c => c.before args0 about1) = true
  refine all_split ?_ w_codes
  rw [← List.take_append_drop 24 words1, List.all_append, w_t1, w_t2]
  rfl
set_option maxRecDepth 65536 in
theorem w_case : (Jvm.Cond.and given_1 narrow_1).before args0 about1 = true := by decide +kernel
theorem w_applies : (headSpec (Jvm.Cond.code x code maxLocals ret :: tables_1) room_1).applies x e0.platform about1 = true :=
  (Spec.applies_iff w_frames).mpr ⟨w_running, w_runnable, w_alone, w_named, w_hears, w_ripe, w_room, w_tables⟩
theorem atStart : AtStart classFile x code maxLocals ret World_1 tables_1 room_1 Calls_1 rest_1 Pre_1 launch0 p0 e0 about1 theMethod args0 below0 :=
  ⟨lists_1, trivial, launch0.admits_env _ _ _, launch0.least_env, fairChoices_fair.cas, fairChoices_fair.clock, w_frames, w_args, w_heap, w_applies, trivial, trivial, w_case⟩
end start1
theorem witness_1 : WitnessClaimed_1 := ⟨start1.p0, start1.e0, start1.about1, start1.theMethod, start1.args0, start1.below0, start1.atStart⟩
end Jvm.Pilot.@@N@@
