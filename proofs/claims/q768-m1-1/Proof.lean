import JvmDerived
import JvmDerived.Pilot.@@N@@Statement
import JvmDerived.Pilot.@@N@@Code
set_option linter.unusedVariables false
set_option linter.unusedSimpArgs false
@@BLOCK:NumsL.lean.txt@@
namespace Jvm.Pilot.@@N@@
open Jvm Jvm.ClassFile Sem Op Lib Jvm.Free Jvm.Stand Jvm.LawKit Jvm.RoadKit Bundle Jvm.Pilot.@@N@@.Jvm.D
section OwnLayer
variable {p : Program} {l : Launch} {e : Env} {R : Room} {s : State} {m : MethodId} {args : Array Value} {below : List Frame} {meth : Method} {c : Code} {T : State} {locs : List Loc} {cells slots : Nat}
variable {F : State → Outcome → Prop} {kc ks : Nat} {Q : Option Value → Heap → List Loc → Prop} {pc pc' : Nat} {ls : Array Slot} {st : List Value} {Z : State} {a0 : Array Value} {h : Heap}
/-- from this state and frame the run comes to an end of which F holds -/
def Goes (p : Program) (e : Env) (below : List Frame) (F : State → Outcome → Prop) (T : State) (g : JFrame) : Prop :=
  ∃ s₂ o, Steps p.tables e below (T.setTop g) s₂ ∧ s₂.status = .running ∧ Ended s₂ below o ∧ F s₂ o
/-- it returns, Q holds of the value, the heap and the places written; the frame is the plain one -/
def FinN (s : State) (kc ks : Nat) (Q : Option Value → Heap → List Loc → Prop) (s₂ : State) (o : Outcome) : Prop := ∃ v L, o = .returned v ∧ Q v s₂.heap L ∧ FrameEnd s o s₂ L kc ks
theorem Goes.fore {T' : State} {g g' : JFrame} (k : ∀ target, Steps p.tables e below (T'.setTop g') target → Steps p.tables e below (T.setTop g) target) (G : Goes p e below F T' g') : Goes p e below F T g := by
  obtain ⟨a, b, h, r⟩ := G; exact ⟨a, b, k _ h, r⟩
theorem Goes.tr {T' : State} {g g' : JFrame} (k : Steps p.tables e below (T.setTop g) (T'.setTop g')) (G : Goes p e below F T' g') : Goes p e below F T g := by
  obtain ⟨a, b, h, r⟩ := G; exact ⟨a, b, k.trans h, r⟩
theorem Goes.cast {g g' : JFrame} (q : g = g') (G : Goes p e below F T g') : Goes p e below F T g := q ▸ G
/-- a body's contract: called with these arguments on this heap it returns, and Q holds of the value, the heap and the places written -/
def Ctr (l : Launch) (Z : State) (y : MethodName) (bytes : ByteArray) (maxL : Nat) (ret : Option FieldType) (ws : List Jvm.Cond) (rm : Room) (as' : Array Value) (h0 : Heap) (Q : Option Value → Heap → List Loc → Prop) : Prop :=
  MetFree l y (head1 (Jvm.Cond.code y bytes maxL ret :: ws) rm) (fun a U => a = as' ∧ Z.Warmed39 U.vm ∧ U.heap = h0) (fun _ _ _ _ _ => True) (fun _ U o U' => ∃ v L, o = .returned v ∧ Q v U'.heap L ∧ FrameEnd U o U' L rm.cells rm.slots)
theorem Ctr.of {y : MethodName} {bytes : ByteArray} {maxL : Nat} {ret : Option FieldType} {ws : List Jvm.Cond} {rm : Room} {as' : Array Value} {h0 : Heap} (hp : plainFor y = true)
    (body : ∀ (p : Program) (e : Env) (s : State) (m : MethodId) (below : List Frame) (meth : Method) (c : Code) (s₁ : State), p.tables.exec = Jvm.exec → (∀ {pc : Nat} {r : Except ClassFile.DecodeError (ClassFile.Instr × Nat)}, ClassFile.decode bytes pc = r → ClassFile.decode c.code pc = r) → c.maxLocals = maxL → meth.sig.returnType = ret → s.vm.findClass y.cls = some m.cls → meth.name = y.name → Z.Warmed39 s.vm → meth.locks = false → Stand p l e rm s m as' below meth c s₁ [] 0 0 → s₁.heap = h0 → Goes p e below (FinN s rm.cells rm.slots Q) s₁ (entryFrame m as' maxL)) :
    Ctr l Z y bytes maxL ret ws rm as' h0 Q := by
  refine MetFree.of_bodySF hp hisR ?_
  intro p e s m args below meth c s₁ Bd hml hP hK
  obtain ⟨rfl, hZ, hh⟩ := hP
  exact body p e s m below meth c s₁ Bd.exec (fun h2 => hb Bd.bytes h2) hml Bd.returns (findClass_of_methodNamed Bd.named) (name_of_methodNamed Bd.named Bd.method).1 hZ Bd.notSynchronized (Stand.of_body Bd) (by rw [← hh, Bd.state]; rfl)
theorem Ctr.mono {y : MethodName} {bytes : ByteArray} {maxL : Nat} {ret : Option FieldType} {ws : List Jvm.Cond} {rm : Room} {as' : Array Value} {h0 : Heap} {Q' : Option Value → Heap → List Loc → Prop} (C : Ctr l Z y bytes maxL ret ws rm as' h0 Q) (hq : ∀ v h L, Q v h L → Q' v h L) : Ctr l Z y bytes maxL ret ws rm as' h0 Q' := by
  intro p e ha hc hk s m args below hf happ hP hK
  obtain ⟨n, o, h1, h2, h3, v, L, h4, h5, h6⟩ := C p e ha hc hk s m args below hf happ hP hK
  exact ⟨n, o, h1, h2, h3, v, L, h4, hq _ _ _ h5, h6⟩
/-- it returns w and leaves the heap as it was -/
def Just (h0 : Heap) (w : Value) (v : Option Value) (h : Heap) (L : List Loc) : Prop := v = some w ∧ h = h0 ∧ L = []
theorem gLoadIN (pc' : Nat) (X : Stand p l e R s m args below meth c T locs cells slots) (hx : p.tables.exec = Jvm.exec) {k : Fin 4} {v : Int32} (hd : decode c.code pc = .ok (.iload_n k, 1)) (hl : ls[k.val]? = some (.val (.int v))) (hp : pc + 1 = pc') (k : Goes p e below F T (mkF m pc' ls (.int v :: st))) : Goes p e below F T (mkF m pc ls st) := by
  subst hp; exact Goes.fore (fun _ q => XS.iloadN X.here hx rfl hd hl q) k
theorem gLoadI (pc' : Nat) (X : Stand p l e R s m args below meth c T locs cells slots) (hx : p.tables.exec = Jvm.exec) {k : Nat} {v : Int32} (hd : decode c.code pc = .ok (.iload k, 2)) (hl : ls[k]? = some (.val (.int v))) (hp : pc + 2 = pc') (k : Goes p e below F T (mkF m pc' ls (.int v :: st))) : Goes p e below F T (mkF m pc ls st) := by
  subst hp; exact Goes.fore (fun _ q => XS.iload X.here hx rfl hd hl q) k
theorem gStoreIN (pc' : Nat) (X : Stand p l e R s m args below meth c T locs cells slots) (hx : p.tables.exec = Jvm.exec) {k : Fin 4} {v : Int32} {l' : Array Slot} (hd : decode c.code pc = .ok (.istore_n k, 1)) (hl : storeLocals ls k.val (.int v) = some l') (hp : pc + 1 = pc') (k : Goes p e below F T (mkF m pc' l' st)) : Goes p e below F T (mkF m pc ls (.int v :: st)) := by
  subst hp; exact Goes.fore (fun _ q => XS.istoreN X.here hx rfl hd rfl hl q) k
theorem gStoreI (pc' : Nat) (X : Stand p l e R s m args below meth c T locs cells slots) (hx : p.tables.exec = Jvm.exec) {k : Nat} {v : Int32} {l' : Array Slot} (hd : decode c.code pc = .ok (.istore k, 2)) (hl : storeLocals ls k (.int v) = some l') (hp : pc + 2 = pc') (k : Goes p e below F T (mkF m pc' l' st)) : Goes p e below F T (mkF m pc ls (.int v :: st)) := by
  subst hp; exact Goes.fore (fun _ q => XS.istore X.here hx rfl hd rfl hl q) k
theorem gLoadJN (pc' : Nat) (X : Stand p l e R s m args below meth c T locs cells slots) (hx : p.tables.exec = Jvm.exec) {k : Fin 4} {v : Int64} (hd : decode c.code pc = .ok (.lload_n k, 1)) (hl : ls[k.val]? = some (.val (.long v))) (hp : pc + 1 = pc') (k : Goes p e below F T (mkF m pc' ls (.long v :: st))) : Goes p e below F T (mkF m pc ls st) := by
  subst hp; exact Goes.fore (fun _ q => XS.lloadN X.here hx rfl hd hl q) k
theorem gLoadJ (pc' : Nat) (X : Stand p l e R s m args below meth c T locs cells slots) (hx : p.tables.exec = Jvm.exec) {k : Nat} {v : Int64} (hd : decode c.code pc = .ok (.lload k, 2)) (hl : ls[k]? = some (.val (.long v))) (hp : pc + 2 = pc') (k : Goes p e below F T (mkF m pc' ls (.long v :: st))) : Goes p e below F T (mkF m pc ls st) := by
  subst hp; exact Goes.fore (fun _ q => XS.lload X.here hx rfl hd hl q) k
theorem gStoreJN (pc' : Nat) (X : Stand p l e R s m args below meth c T locs cells slots) (hx : p.tables.exec = Jvm.exec) {k : Fin 4} {v : Int64} {l' : Array Slot} (hd : decode c.code pc = .ok (.lstore_n k, 1)) (hl : storeLocals ls k.val (.long v) = some l') (hp : pc + 1 = pc') (k : Goes p e below F T (mkF m pc' l' st)) : Goes p e below F T (mkF m pc ls (.long v :: st)) := by
  subst hp; exact Goes.fore (fun _ q => XS.lstoreN X.here hx rfl hd rfl hl q) k
theorem gStoreJ (pc' : Nat) (X : Stand p l e R s m args below meth c T locs cells slots) (hx : p.tables.exec = Jvm.exec) {k : Nat} {v : Int64} {l' : Array Slot} (hd : decode c.code pc = .ok (.lstore k, 2)) (hl : storeLocals ls k (.long v) = some l') (hp : pc + 2 = pc') (k : Goes p e below F T (mkF m pc' l' st)) : Goes p e below F T (mkF m pc ls (.long v :: st)) := by
  subst hp; exact Goes.fore (fun _ q => XS.lstore X.here hx rfl hd rfl hl q) k
theorem gLoadAN (pc' : Nat) (X : Stand p l e R s m args below meth c T locs cells slots) (hx : p.tables.exec = Jvm.exec) {k : Fin 4} {v : Value} (hd : decode c.code pc = .ok (.aload_n k, 1)) (hl : ls[k.val]? = some (.val v)) (hv : v.isRef = true) (hp : pc + 1 = pc') (k : Goes p e below F T (mkF m pc' ls (v :: st))) : Goes p e below F T (mkF m pc ls st) := by
  subst hp; exact Goes.fore (fun _ q => XS.aloadN X.here hx rfl hd hl hv q) k
theorem gLoadA (pc' : Nat) (X : Stand p l e R s m args below meth c T locs cells slots) (hx : p.tables.exec = Jvm.exec) {k : Nat} {v : Value} (hd : decode c.code pc = .ok (.aload k, 2)) (hl : ls[k]? = some (.val v)) (hv : v.isRef = true) (hp : pc + 2 = pc') (k : Goes p e below F T (mkF m pc' ls (v :: st))) : Goes p e below F T (mkF m pc ls st) := by
  subst hp; exact Goes.fore (fun _ q => XS.aload X.here hx rfl hd hl hv q) k
theorem gStoreAN (pc' : Nat) (X : Stand p l e R s m args below meth c T locs cells slots) (hx : p.tables.exec = Jvm.exec) {k : Fin 4} {v : Value} {l' : Array Slot} (hd : decode c.code pc = .ok (.astore_n k, 1)) (hv : v.isRef = true) (hl : storeLocals ls k.val v = some l') (hp : pc + 1 = pc') (k : Goes p e below F T (mkF m pc' l' st)) : Goes p e below F T (mkF m pc ls (v :: st)) := by
  subst hp; exact Goes.fore (fun _ q => XS.astoreN X.here hx rfl hd rfl hv hl q) k
theorem gStoreA (pc' : Nat) (X : Stand p l e R s m args below meth c T locs cells slots) (hx : p.tables.exec = Jvm.exec) {k : Nat} {v : Value} {l' : Array Slot} (hd : decode c.code pc = .ok (.astore k, 2)) (hv : v.isRef = true) (hl : storeLocals ls k v = some l') (hp : pc + 2 = pc') (k : Goes p e below F T (mkF m pc' l' st)) : Goes p e below F T (mkF m pc ls (v :: st)) := by
  subst hp; exact Goes.fore (fun _ q => XS.astore X.here hx rfl hd rfl hv hl q) k
theorem gIconst (pc' : Nat) (X : Stand p l e R s m args below meth c T locs cells slots) (hx : p.tables.exec = Jvm.exec) {i : Int} {v : Int32} (hd : decode c.code pc = .ok (.iconst i, 1)) (hv : Int32.ofInt i = v) (hp : pc + 1 = pc') (k : Goes p e below F T (mkF m pc' ls (.int v :: st))) : Goes p e below F T (mkF m pc ls st) := by
  subst hp; exact Goes.fore (fun _ q => XT.iconstV X.here hx rfl v hd hv q) k
theorem gBipush (pc' : Nat) (X : Stand p l e R s m args below meth c T locs cells slots) (hx : p.tables.exec = Jvm.exec) {i : Int} {v : Int32} (hd : decode c.code pc = .ok (.bipush i, 2)) (hv : (Int8.ofInt i).toInt32 = v) (hp : pc + 2 = pc') (k : Goes p e below F T (mkF m pc' ls (.int v :: st))) : Goes p e below F T (mkF m pc ls st) := by
  subst hp; exact Goes.fore (fun _ q => XT.bipushV X.here hx rfl v hd hv q) k
theorem gSipush (pc' : Nat) (X : Stand p l e R s m args below meth c T locs cells slots) (hx : p.tables.exec = Jvm.exec) {i : Int} {v : Int32} (hd : decode c.code pc = .ok (.sipush i, 3)) (hv : (Int16.ofInt i).toInt32 = v) (hp : pc + 3 = pc') (k : Goes p e below F T (mkF m pc' ls (.int v :: st))) : Goes p e below F T (mkF m pc ls st) := by
  subst hp; exact Goes.fore (fun _ q => XT.sipushV X.here hx rfl v hd hv q) k
theorem gLconst (pc' : Nat) (X : Stand p l e R s m args below meth c T locs cells slots) (hx : p.tables.exec = Jvm.exec) {i : Fin 2} {v : Int64} (hd : decode c.code pc = .ok (.lconst i, 1)) (hv : Int64.ofNat i = v) (hp : pc + 1 = pc') (k : Goes p e below F T (mkF m pc' ls (.long v :: st))) : Goes p e below F T (mkF m pc ls st) := by
  subst hp; exact Goes.fore (fun _ q => XT.lconstV X.here hx rfl v hd hv q) k
theorem gNull (pc' : Nat) (X : Stand p l e R s m args below meth c T locs cells slots) (hx : p.tables.exec = Jvm.exec)  (hd : decode c.code pc = .ok (.aconst_null, 1))  (hp : pc + 1 = pc') (k : Goes p e below F T (mkF m pc' ls (.null :: st))) : Goes p e below F T (mkF m pc ls st) := by
  subst hp; exact Goes.fore (fun _ q => XS.aconstNull X.here hx rfl hd q) k
theorem gLdc (pc' : Nat) (X : Stand p l e R s m args below meth c T locs cells slots) (hx : p.tables.exec = Jvm.exec) {own : String} {i : Nat} {v : Int32} (hZ : Z.Warmed39 s.vm) (hown : s.vm.findClass own = some m.cls) (w : (Jvm.Cond.constant own i v).before a0 Z = true) (hd : decode c.code pc = .ok (.ldc i, 2))  (hp : pc + 2 = pc') (k : Goes p e below F T (mkF m pc' ls (.int v :: st))) : Goes p e below F T (mkF m pc ls st) := by
  subst hp; exact Goes.fore (fun _ q => X.ldcI hx hown (mvT hZ w) rfl hd q) k
theorem gLdcW (pc' : Nat) (X : Stand p l e R s m args below meth c T locs cells slots) (hx : p.tables.exec = Jvm.exec) {own : String} {i : Nat} {v : Int32} (hZ : Z.Warmed39 s.vm) (hown : s.vm.findClass own = some m.cls) (w : (Jvm.Cond.constant own i v).before a0 Z = true) (hd : decode c.code pc = .ok (.ldc_w i, 3))  (hp : pc + 3 = pc') (k : Goes p e below F T (mkF m pc' ls (.int v :: st))) : Goes p e below F T (mkF m pc ls st) := by
  subst hp; exact Goes.fore (fun _ q => X.ldcWI hx hown (mvT hZ w) rfl hd q) k
theorem gLdc2 (pc' : Nat) (X : Stand p l e R s m args below meth c T locs cells slots) (hx : p.tables.exec = Jvm.exec) {own : String} {i : Nat} {v : Int64} (hZ : Z.Warmed39 s.vm) (hown : s.vm.findClass own = some m.cls) (w : (Jvm.Cond.constantLong own i v).before a0 Z = true) (hd : decode c.code pc = .ok (.ldc2_w i, 3))  (hp : pc + 3 = pc') (k : Goes p e below F T (mkF m pc' ls (.long v :: st))) : Goes p e below F T (mkF m pc ls st) := by
  subst hp; exact Goes.fore (fun _ q => X.ldc2J hx hown (mvT hZ w) rfl hd q) k
theorem gIadd (pc' : Nat) (X : Stand p l e R s m args below meth c T locs cells slots) (hx : p.tables.exec = Jvm.exec) {x y : Int32} (hd : decode c.code pc = .ok (.iadd, 1))  (hp : pc + 1 = pc') (k : Goes p e below F T (mkF m pc' ls (.int (x + y) :: st))) : Goes p e below F T (mkF m pc ls (.int y :: .int x :: st)) := by
  subst hp; exact Goes.fore (fun _ q => XS.iadd X.here hx rfl hd rfl q) k
theorem gIsub (pc' : Nat) (X : Stand p l e R s m args below meth c T locs cells slots) (hx : p.tables.exec = Jvm.exec) {x y : Int32} (hd : decode c.code pc = .ok (.isub, 1))  (hp : pc + 1 = pc') (k : Goes p e below F T (mkF m pc' ls (.int (x - y) :: st))) : Goes p e below F T (mkF m pc ls (.int y :: .int x :: st)) := by
  subst hp; exact Goes.fore (fun _ q => XS.isub X.here hx rfl hd rfl q) k
theorem gImul (pc' : Nat) (X : Stand p l e R s m args below meth c T locs cells slots) (hx : p.tables.exec = Jvm.exec) {x y : Int32} (hd : decode c.code pc = .ok (.imul, 1))  (hp : pc + 1 = pc') (k : Goes p e below F T (mkF m pc' ls (.int (x * y) :: st))) : Goes p e below F T (mkF m pc ls (.int y :: .int x :: st)) := by
  subst hp; exact Goes.fore (fun _ q => XS.imul X.here hx rfl hd rfl q) k
theorem gIand (pc' : Nat) (X : Stand p l e R s m args below meth c T locs cells slots) (hx : p.tables.exec = Jvm.exec) {x y : Int32} (hd : decode c.code pc = .ok (.iand, 1))  (hp : pc + 1 = pc') (k : Goes p e below F T (mkF m pc' ls (.int (x &&& y) :: st))) : Goes p e below F T (mkF m pc ls (.int y :: .int x :: st)) := by
  subst hp; exact Goes.fore (fun _ q => XS.iand X.here hx rfl hd rfl q) k
theorem gIor (pc' : Nat) (X : Stand p l e R s m args below meth c T locs cells slots) (hx : p.tables.exec = Jvm.exec) {x y : Int32} (hd : decode c.code pc = .ok (.ior, 1))  (hp : pc + 1 = pc') (k : Goes p e below F T (mkF m pc' ls (.int (x ||| y) :: st))) : Goes p e below F T (mkF m pc ls (.int y :: .int x :: st)) := by
  subst hp; exact Goes.fore (fun _ q => XS.ior X.here hx rfl hd rfl q) k
theorem gIxor (pc' : Nat) (X : Stand p l e R s m args below meth c T locs cells slots) (hx : p.tables.exec = Jvm.exec) {x y : Int32} (hd : decode c.code pc = .ok (.ixor, 1))  (hp : pc + 1 = pc') (k : Goes p e below F T (mkF m pc' ls (.int (x ^^^ y) :: st))) : Goes p e below F T (mkF m pc ls (.int y :: .int x :: st)) := by
  subst hp; exact Goes.fore (fun _ q => XS.ixor X.here hx rfl hd rfl q) k
theorem gIshl (pc' : Nat) (X : Stand p l e R s m args below meth c T locs cells slots) (hx : p.tables.exec = Jvm.exec) {x y : Int32} (hd : decode c.code pc = .ok (.ishl, 1))  (hp : pc + 1 = pc') (k : Goes p e below F T (mkF m pc' ls (.int (x <<< (y &&& 31)) :: st))) : Goes p e below F T (mkF m pc ls (.int y :: .int x :: st)) := by
  subst hp; exact Goes.fore (fun _ q => XS.ishl X.here hx rfl hd rfl q) k
theorem gIshr (pc' : Nat) (X : Stand p l e R s m args below meth c T locs cells slots) (hx : p.tables.exec = Jvm.exec) {x y : Int32} (hd : decode c.code pc = .ok (.ishr, 1))  (hp : pc + 1 = pc') (k : Goes p e below F T (mkF m pc' ls (.int (x >>> (y &&& 31)) :: st))) : Goes p e below F T (mkF m pc ls (.int y :: .int x :: st)) := by
  subst hp; exact Goes.fore (fun _ q => XS.ishr X.here hx rfl hd rfl q) k
theorem gIushr (pc' : Nat) (X : Stand p l e R s m args below meth c T locs cells slots) (hx : p.tables.exec = Jvm.exec) {x y : Int32} (hd : decode c.code pc = .ok (.iushr, 1))  (hp : pc + 1 = pc') (k : Goes p e below F T (mkF m pc' ls (.int ((x.toUInt32 >>> (y &&& 31).toUInt32).toInt32) :: st))) : Goes p e below F T (mkF m pc ls (.int y :: .int x :: st)) := by
  subst hp; exact Goes.fore (fun _ q => XS.iushr X.here hx rfl hd rfl q) k
theorem gLadd (pc' : Nat) (X : Stand p l e R s m args below meth c T locs cells slots) (hx : p.tables.exec = Jvm.exec) {x y : Int64} (hd : decode c.code pc = .ok (.ladd, 1))  (hp : pc + 1 = pc') (k : Goes p e below F T (mkF m pc' ls (.long (x + y) :: st))) : Goes p e below F T (mkF m pc ls (.long y :: .long x :: st)) := by
  subst hp; exact Goes.fore (fun _ q => XS.ladd X.here hx rfl hd rfl q) k
theorem gLsub (pc' : Nat) (X : Stand p l e R s m args below meth c T locs cells slots) (hx : p.tables.exec = Jvm.exec) {x y : Int64} (hd : decode c.code pc = .ok (.lsub, 1))  (hp : pc + 1 = pc') (k : Goes p e below F T (mkF m pc' ls (.long (x - y) :: st))) : Goes p e below F T (mkF m pc ls (.long y :: .long x :: st)) := by
  subst hp; exact Goes.fore (fun _ q => XS.lsub X.here hx rfl hd rfl q) k
theorem gLmul (pc' : Nat) (X : Stand p l e R s m args below meth c T locs cells slots) (hx : p.tables.exec = Jvm.exec) {x y : Int64} (hd : decode c.code pc = .ok (.lmul, 1))  (hp : pc + 1 = pc') (k : Goes p e below F T (mkF m pc' ls (.long (x * y) :: st))) : Goes p e below F T (mkF m pc ls (.long y :: .long x :: st)) := by
  subst hp; exact Goes.fore (fun _ q => XS.lmul X.here hx rfl hd rfl q) k
theorem gLand (pc' : Nat) (X : Stand p l e R s m args below meth c T locs cells slots) (hx : p.tables.exec = Jvm.exec) {x y : Int64} (hd : decode c.code pc = .ok (.land, 1))  (hp : pc + 1 = pc') (k : Goes p e below F T (mkF m pc' ls (.long (x &&& y) :: st))) : Goes p e below F T (mkF m pc ls (.long y :: .long x :: st)) := by
  subst hp; exact Goes.fore (fun _ q => XS.land X.here hx rfl hd rfl q) k
theorem gLor (pc' : Nat) (X : Stand p l e R s m args below meth c T locs cells slots) (hx : p.tables.exec = Jvm.exec) {x y : Int64} (hd : decode c.code pc = .ok (.lor, 1))  (hp : pc + 1 = pc') (k : Goes p e below F T (mkF m pc' ls (.long (x ||| y) :: st))) : Goes p e below F T (mkF m pc ls (.long y :: .long x :: st)) := by
  subst hp; exact Goes.fore (fun _ q => XS.lor X.here hx rfl hd rfl q) k
theorem gLxor (pc' : Nat) (X : Stand p l e R s m args below meth c T locs cells slots) (hx : p.tables.exec = Jvm.exec) {x y : Int64} (hd : decode c.code pc = .ok (.lxor, 1))  (hp : pc + 1 = pc') (k : Goes p e below F T (mkF m pc' ls (.long (x ^^^ y) :: st))) : Goes p e below F T (mkF m pc ls (.long y :: .long x :: st)) := by
  subst hp; exact Goes.fore (fun _ q => XS.lxor X.here hx rfl hd rfl q) k
theorem gLshl (pc' : Nat) (X : Stand p l e R s m args below meth c T locs cells slots) (hx : p.tables.exec = Jvm.exec) {x : Int64} {y : Int32} (hd : decode c.code pc = .ok (.lshl, 1))  (hp : pc + 1 = pc') (k : Goes p e below F T (mkF m pc' ls (.long (x <<< (y &&& 0x3f).toInt64) :: st))) : Goes p e below F T (mkF m pc ls (.int y :: .long x :: st)) := by
  subst hp; exact Goes.fore (fun _ q => XS.lshl X.here hx rfl hd rfl q) k
theorem gLshr (pc' : Nat) (X : Stand p l e R s m args below meth c T locs cells slots) (hx : p.tables.exec = Jvm.exec) {x : Int64} {y : Int32} (hd : decode c.code pc = .ok (.lshr, 1))  (hp : pc + 1 = pc') (k : Goes p e below F T (mkF m pc' ls (.long (x >>> (y &&& 0x3f).toInt64) :: st))) : Goes p e below F T (mkF m pc ls (.int y :: .long x :: st)) := by
  subst hp; exact Goes.fore (fun _ q => XS.lshr X.here hx rfl hd rfl q) k
theorem gLushr (pc' : Nat) (X : Stand p l e R s m args below meth c T locs cells slots) (hx : p.tables.exec = Jvm.exec) {x : Int64} {y : Int32} (hd : decode c.code pc = .ok (.lushr, 1))  (hp : pc + 1 = pc') (k : Goes p e below F T (mkF m pc' ls (.long ((x.toUInt64 >>> (y &&& 0x3f).toInt64.toUInt64).toInt64) :: st))) : Goes p e below F T (mkF m pc ls (.int y :: .long x :: st)) := by
  subst hp; exact Goes.fore (fun _ q => XS.lushr X.here hx rfl hd rfl q) k
theorem gIdiv (pc' : Nat) (X : Stand p l e R s m args below meth c T locs cells slots) (hx : p.tables.exec = Jvm.exec) {x y : Int32} (hd : decode c.code pc = .ok (.idiv, 1)) (hy : y ≠ 0) (hp : pc + 1 = pc') (k : Goes p e below F T (mkF m pc' ls (.int (x / y) :: st))) : Goes p e below F T (mkF m pc ls (.int y :: .int x :: st)) := by
  subst hp; exact Goes.fore (fun _ q => XS.idiv X.here hx rfl hd rfl hy q) k
theorem gIrem (pc' : Nat) (X : Stand p l e R s m args below meth c T locs cells slots) (hx : p.tables.exec = Jvm.exec) {x y : Int32} (hd : decode c.code pc = .ok (.irem, 1)) (hy : y ≠ 0) (hp : pc + 1 = pc') (k : Goes p e below F T (mkF m pc' ls (.int (x % y) :: st))) : Goes p e below F T (mkF m pc ls (.int y :: .int x :: st)) := by
  subst hp; exact Goes.fore (fun _ q => iremM X hx rfl hd rfl hy q) k
theorem gIneg (pc' : Nat) (X : Stand p l e R s m args below meth c T locs cells slots) (hx : p.tables.exec = Jvm.exec) {x : Int32} (hd : decode c.code pc = .ok (.ineg, 1))  (hp : pc + 1 = pc') (k : Goes p e below F T (mkF m pc' ls (.int (-x) :: st))) : Goes p e below F T (mkF m pc ls (.int x :: st)) := by
  subst hp; exact Goes.fore (fun _ q => XS.ineg X.here hx rfl hd rfl q) k
theorem gLneg (pc' : Nat) (X : Stand p l e R s m args below meth c T locs cells slots) (hx : p.tables.exec = Jvm.exec) {x : Int64} (hd : decode c.code pc = .ok (.lneg, 1))  (hp : pc + 1 = pc') (k : Goes p e below F T (mkF m pc' ls (.long (-x) :: st))) : Goes p e below F T (mkF m pc ls (.long x :: st)) := by
  subst hp; exact Goes.fore (fun _ q => XS.lneg X.here hx rfl hd rfl q) k
theorem gI2l (pc' : Nat) (X : Stand p l e R s m args below meth c T locs cells slots) (hx : p.tables.exec = Jvm.exec) {x : Int32} (hd : decode c.code pc = .ok (.i2l, 1))  (hp : pc + 1 = pc') (k : Goes p e below F T (mkF m pc' ls (.long (x.toInt64) :: st))) : Goes p e below F T (mkF m pc ls (.int x :: st)) := by
  subst hp; exact Goes.fore (fun _ q => XS.i2l X.here hx rfl hd rfl q) k
theorem gL2i (pc' : Nat) (X : Stand p l e R s m args below meth c T locs cells slots) (hx : p.tables.exec = Jvm.exec) {x : Int64} (hd : decode c.code pc = .ok (.l2i, 1))  (hp : pc + 1 = pc') (k : Goes p e below F T (mkF m pc' ls (.int (x.toInt32) :: st))) : Goes p e below F T (mkF m pc ls (.long x :: st)) := by
  subst hp; exact Goes.fore (fun _ q => XS.l2i X.here hx rfl hd rfl q) k
theorem gI2b (pc' : Nat) (X : Stand p l e R s m args below meth c T locs cells slots) (hx : p.tables.exec = Jvm.exec) {x : Int32} (hd : decode c.code pc = .ok (.i2b, 1))  (hp : pc + 1 = pc') (k : Goes p e below F T (mkF m pc' ls (.int (x.toInt8.toInt32) :: st))) : Goes p e below F T (mkF m pc ls (.int x :: st)) := by
  subst hp; exact Goes.fore (fun _ q => XS.i2b X.here hx rfl hd rfl q) k
theorem gI2c (pc' : Nat) (X : Stand p l e R s m args below meth c T locs cells slots) (hx : p.tables.exec = Jvm.exec) {x : Int32} (hd : decode c.code pc = .ok (.i2c, 1))  (hp : pc + 1 = pc') (k : Goes p e below F T (mkF m pc' ls (.int (x.toUInt32.toUInt16.toUInt32.toInt32) :: st))) : Goes p e below F T (mkF m pc ls (.int x :: st)) := by
  subst hp; exact Goes.fore (fun _ q => XS.i2c X.here hx rfl hd rfl q) k
theorem gI2s (pc' : Nat) (X : Stand p l e R s m args below meth c T locs cells slots) (hx : p.tables.exec = Jvm.exec) {x : Int32} (hd : decode c.code pc = .ok (.i2s, 1))  (hp : pc + 1 = pc') (k : Goes p e below F T (mkF m pc' ls (.int (x.toInt16.toInt32) :: st))) : Goes p e below F T (mkF m pc ls (.int x :: st)) := by
  subst hp; exact Goes.fore (fun _ q => XS.i2s X.here hx rfl hd rfl q) k
theorem gLcmp (pc' : Nat) (X : Stand p l e R s m args below meth c T locs cells slots) (hx : p.tables.exec = Jvm.exec) {x y : Int64} (hd : decode c.code pc = .ok (.lcmp, 1))  (hp : pc + 1 = pc') (k : Goes p e below F T (mkF m pc' ls (.int (lcmpW x y) :: st))) : Goes p e below F T (mkF m pc ls (.long y :: .long x :: st)) := by
  subst hp; exact Goes.fore (fun _ q => XS.lcmp X.here hx rfl hd rfl q) k
theorem gIinc (X : Stand p l e R s m args below meth c T locs cells slots) (hx : p.tables.exec = Jvm.exec) {k : Nat} {i : Int} {x v : Int32} {l' : Array Slot} (hd : decode c.code pc = .ok (.iinc k i, 3)) (hv : Int32.ofInt i = v) (hl : ls[k]? = some (.val (.int x))) (hl' : storeLocals ls k (.int (x + v)) = some l') (hp : pc + 3 = pc') (k : Goes p e below F T (mkF m pc' l' st)) : Goes p e below F T (mkF m pc ls st) := by
  subst hp; exact Goes.fore (fun _ q => XT.iincV X.here hx rfl v hd hv hl hl' q) k
theorem gDup (pc' : Nat) (X : Stand p l e R s m args below meth c T locs cells slots) (hx : p.tables.exec = Jvm.exec) {v : Value} (hd : decode c.code pc = .ok (.dup, 1)) (hv : v.category = 1) (hp : pc + 1 = pc') (k : Goes p e below F T (mkF m pc' ls (v :: v :: st))) : Goes p e below F T (mkF m pc ls (v :: st)) := by
  subst hp; exact Goes.fore (fun _ q => XS.dup X.here hx rfl hd rfl hv q) k
theorem gPop (pc' : Nat) (X : Stand p l e R s m args below meth c T locs cells slots) (hx : p.tables.exec = Jvm.exec) {v : Value} (hd : decode c.code pc = .ok (.pop, 1)) (hv : v.category = 1) (hp : pc + 1 = pc') (k : Goes p e below F T (mkF m pc' ls st)) : Goes p e below F T (mkF m pc ls (v :: st)) := by
  subst hp; exact Goes.fore (fun _ q => XS.pop X.here hx rfl hd rfl hv q) k
theorem gDupX1 (pc' : Nat) (X : Stand p l e R s m args below meth c T locs cells slots) (hx : p.tables.exec = Jvm.exec) {v w : Value} (hd : decode c.code pc = .ok (.dup_x1, 1)) (hv : v.category = 1) (hw : w.category = 1) (hp : pc + 1 = pc') (k : Goes p e below F T (mkF m pc' ls (v :: w :: v :: st))) : Goes p e below F T (mkF m pc ls (v :: w :: st)) := by
  subst hp; exact Goes.fore (fun _ q => XS.dupX1 X.here hx rfl hd rfl hv hw q) k
theorem gDup2 (pc' : Nat) (X : Stand p l e R s m args below meth c T locs cells slots) (hx : p.tables.exec = Jvm.exec) {v w : Value} (hd : decode c.code pc = .ok (.dup2, 1)) (hv : v.category = 1) (hw : w.category = 1) (hp : pc + 1 = pc') (k : Goes p e below F T (mkF m pc' ls (v :: w :: v :: w :: st))) : Goes p e below F T (mkF m pc ls (v :: w :: st)) := by
  subst hp; exact Goes.fore (fun _ q => XT.dup2 X.here hx rfl hd rfl hv hw q) k
theorem gGoto (X : Stand p l e R s m args below meth c T locs cells slots) (hx : p.tables.exec = Jvm.exec) {o : Int} (hd : decode c.code pc = .ok (.goto o, 3)) (ho : 0 ≤ (pc : Int) + o) (hp : ((pc : Int) + o).toNat = pc') (k : Goes p e below F T (mkF m pc' ls st)) : Goes p e below F T (mkF m pc ls st) := Goes.fore (fun _ q => XS.goto X.here hx rfl rfl hd ho hp q) k
theorem gIcmp (X : Stand p l e R s m args below meth c T locs cells slots) (hx : p.tables.exec = Jvm.exec) {cd : ClassFile.Cond} {o : Int} {x y : Int32} {pn : Nat} (hd : decode c.code pc = .ok (.if_icmp cd o, 3)) (ho : 0 ≤ (pc : Int) + o) (hp : ((pc : Int) + o).toNat = pc') (hn : pc + 3 = pn) (kY : if_icmp.holds cd x y = true → Goes p e below F T (mkF m pc' ls st)) (kN : if_icmp.holds cd x y = false → Goes p e below F T (mkF m pn ls st)) : Goes p e below F T (mkF m pc ls (.int y :: .int x :: st)) := by
  subst hn
  cases hb : if_icmp.holds cd x y
  · exact Goes.fore (fun _ q => XS.icmpNo X.here hx rfl hd rfl hb q) (kN hb)
  · exact Goes.fore (fun _ q => XS.icmpYes X.here hx rfl rfl hd rfl hb ho hp q) (kY hb)
theorem gIf (X : Stand p l e R s m args below meth c T locs cells slots) (hx : p.tables.exec = Jvm.exec) {cd : ClassFile.Cond} {o : Int} {x : Int32} {pn : Nat} (hd : decode c.code pc = .ok (.ifCond cd o, 3)) (ho : 0 ≤ (pc : Int) + o) (hp : ((pc : Int) + o).toNat = pc') (hn : pc + 3 = pn) (kY : ifCond.holds cd x = true → Goes p e below F T (mkF m pc' ls st)) (kN : ifCond.holds cd x = false → Goes p e below F T (mkF m pn ls st)) : Goes p e below F T (mkF m pc ls (.int x :: st)) := by
  subst hn
  cases hb : ifCond.holds cd x
  · exact Goes.fore (fun _ q => XS.ifNo X.here hx rfl hd rfl hb q) (kN hb)
  · exact Goes.fore (fun _ q => XS.ifYes X.here hx rfl rfl hd rfl hb ho hp q) (kY hb)
theorem gIcmpEq (X : Stand p l e R s m args below meth c T locs cells slots) (hx : p.tables.exec = Jvm.exec) {o : Int} {x y : Int32} {pn : Nat} (hd : decode c.code pc = .ok (.if_icmp .eq o, 3)) (ho : 0 ≤ (pc : Int) + o) (hp : ((pc : Int) + o).toNat = pc') (hn : pc + 3 = pn) (kY : x = y → Goes p e below F T (mkF m pc' ls st)) (kN : ¬ x = y → Goes p e below F T (mkF m pn ls st)) : Goes p e below F T (mkF m pc ls (.int y :: .int x :: st)) :=
  gIcmp X hx hd ho hp hn (fun q => kY (by simpa [if_icmp.holds, Int32.lt_iff_toInt_lt, Int32.le_iff_toInt_le] using q)) (fun q => kN (by simpa [if_icmp.holds, Int32.lt_iff_toInt_lt, Int32.le_iff_toInt_le] using q))
theorem gIfEq (X : Stand p l e R s m args below meth c T locs cells slots) (hx : p.tables.exec = Jvm.exec) {o : Int} {x : Int32} {pn : Nat} (hd : decode c.code pc = .ok (.ifCond .eq o, 3)) (ho : 0 ≤ (pc : Int) + o) (hp : ((pc : Int) + o).toNat = pc') (hn : pc + 3 = pn) (kY : x = 0 → Goes p e below F T (mkF m pc' ls st)) (kN : ¬ x = 0 → Goes p e below F T (mkF m pn ls st)) : Goes p e below F T (mkF m pc ls (.int x :: st)) :=
  gIf X hx hd ho hp hn (fun q => kY (by simpa [ifCond.holds, Int32.lt_iff_toInt_lt, Int32.le_iff_toInt_le] using q)) (fun q => kN (by simpa [ifCond.holds, Int32.lt_iff_toInt_lt, Int32.le_iff_toInt_le] using q))
theorem gIcmpNe (X : Stand p l e R s m args below meth c T locs cells slots) (hx : p.tables.exec = Jvm.exec) {o : Int} {x y : Int32} {pn : Nat} (hd : decode c.code pc = .ok (.if_icmp .ne o, 3)) (ho : 0 ≤ (pc : Int) + o) (hp : ((pc : Int) + o).toNat = pc') (hn : pc + 3 = pn) (kY : ¬ x = y → Goes p e below F T (mkF m pc' ls st)) (kN : x = y → Goes p e below F T (mkF m pn ls st)) : Goes p e below F T (mkF m pc ls (.int y :: .int x :: st)) :=
  gIcmp X hx hd ho hp hn (fun q => kY (by simpa [if_icmp.holds, Int32.lt_iff_toInt_lt, Int32.le_iff_toInt_le] using q)) (fun q => kN (by simpa [if_icmp.holds, Int32.lt_iff_toInt_lt, Int32.le_iff_toInt_le] using q))
theorem gIfNe (X : Stand p l e R s m args below meth c T locs cells slots) (hx : p.tables.exec = Jvm.exec) {o : Int} {x : Int32} {pn : Nat} (hd : decode c.code pc = .ok (.ifCond .ne o, 3)) (ho : 0 ≤ (pc : Int) + o) (hp : ((pc : Int) + o).toNat = pc') (hn : pc + 3 = pn) (kY : ¬ x = 0 → Goes p e below F T (mkF m pc' ls st)) (kN : x = 0 → Goes p e below F T (mkF m pn ls st)) : Goes p e below F T (mkF m pc ls (.int x :: st)) :=
  gIf X hx hd ho hp hn (fun q => kY (by simpa [ifCond.holds, Int32.lt_iff_toInt_lt, Int32.le_iff_toInt_le] using q)) (fun q => kN (by simpa [ifCond.holds, Int32.lt_iff_toInt_lt, Int32.le_iff_toInt_le] using q))
theorem gIcmpLt (X : Stand p l e R s m args below meth c T locs cells slots) (hx : p.tables.exec = Jvm.exec) {o : Int} {x y : Int32} {pn : Nat} (hd : decode c.code pc = .ok (.if_icmp .lt o, 3)) (ho : 0 ≤ (pc : Int) + o) (hp : ((pc : Int) + o).toNat = pc') (hn : pc + 3 = pn) (kY : x.toInt < y.toInt → Goes p e below F T (mkF m pc' ls st)) (kN : y.toInt ≤ x.toInt → Goes p e below F T (mkF m pn ls st)) : Goes p e below F T (mkF m pc ls (.int y :: .int x :: st)) :=
  gIcmp X hx hd ho hp hn (fun q => kY (by simpa [if_icmp.holds, Int32.lt_iff_toInt_lt, Int32.le_iff_toInt_le] using q)) (fun q => kN (by simpa [if_icmp.holds, Int32.lt_iff_toInt_lt, Int32.le_iff_toInt_le] using q))
theorem gIfLt (X : Stand p l e R s m args below meth c T locs cells slots) (hx : p.tables.exec = Jvm.exec) {o : Int} {x : Int32} {pn : Nat} (hd : decode c.code pc = .ok (.ifCond .lt o, 3)) (ho : 0 ≤ (pc : Int) + o) (hp : ((pc : Int) + o).toNat = pc') (hn : pc + 3 = pn) (kY : x.toInt < (0 : Int) → Goes p e below F T (mkF m pc' ls st)) (kN : (0 : Int) ≤ x.toInt → Goes p e below F T (mkF m pn ls st)) : Goes p e below F T (mkF m pc ls (.int x :: st)) :=
  gIf X hx hd ho hp hn (fun q => kY (by simpa [ifCond.holds, Int32.lt_iff_toInt_lt, Int32.le_iff_toInt_le] using q)) (fun q => kN (by simpa [ifCond.holds, Int32.lt_iff_toInt_lt, Int32.le_iff_toInt_le] using q))
theorem gIcmpGe (X : Stand p l e R s m args below meth c T locs cells slots) (hx : p.tables.exec = Jvm.exec) {o : Int} {x y : Int32} {pn : Nat} (hd : decode c.code pc = .ok (.if_icmp .ge o, 3)) (ho : 0 ≤ (pc : Int) + o) (hp : ((pc : Int) + o).toNat = pc') (hn : pc + 3 = pn) (kY : y.toInt ≤ x.toInt → Goes p e below F T (mkF m pc' ls st)) (kN : x.toInt < y.toInt → Goes p e below F T (mkF m pn ls st)) : Goes p e below F T (mkF m pc ls (.int y :: .int x :: st)) :=
  gIcmp X hx hd ho hp hn (fun q => kY (by simpa [if_icmp.holds, Int32.lt_iff_toInt_lt, Int32.le_iff_toInt_le] using q)) (fun q => kN (by simpa [if_icmp.holds, Int32.lt_iff_toInt_lt, Int32.le_iff_toInt_le] using q))
theorem gIfGe (X : Stand p l e R s m args below meth c T locs cells slots) (hx : p.tables.exec = Jvm.exec) {o : Int} {x : Int32} {pn : Nat} (hd : decode c.code pc = .ok (.ifCond .ge o, 3)) (ho : 0 ≤ (pc : Int) + o) (hp : ((pc : Int) + o).toNat = pc') (hn : pc + 3 = pn) (kY : (0 : Int) ≤ x.toInt → Goes p e below F T (mkF m pc' ls st)) (kN : x.toInt < (0 : Int) → Goes p e below F T (mkF m pn ls st)) : Goes p e below F T (mkF m pc ls (.int x :: st)) :=
  gIf X hx hd ho hp hn (fun q => kY (by simpa [ifCond.holds, Int32.lt_iff_toInt_lt, Int32.le_iff_toInt_le] using q)) (fun q => kN (by simpa [ifCond.holds, Int32.lt_iff_toInt_lt, Int32.le_iff_toInt_le] using q))
theorem gIcmpGt (X : Stand p l e R s m args below meth c T locs cells slots) (hx : p.tables.exec = Jvm.exec) {o : Int} {x y : Int32} {pn : Nat} (hd : decode c.code pc = .ok (.if_icmp .gt o, 3)) (ho : 0 ≤ (pc : Int) + o) (hp : ((pc : Int) + o).toNat = pc') (hn : pc + 3 = pn) (kY : y.toInt < x.toInt → Goes p e below F T (mkF m pc' ls st)) (kN : x.toInt ≤ y.toInt → Goes p e below F T (mkF m pn ls st)) : Goes p e below F T (mkF m pc ls (.int y :: .int x :: st)) :=
  gIcmp X hx hd ho hp hn (fun q => kY (by simpa [if_icmp.holds, Int32.lt_iff_toInt_lt, Int32.le_iff_toInt_le] using q)) (fun q => kN (by simpa [if_icmp.holds, Int32.lt_iff_toInt_lt, Int32.le_iff_toInt_le] using q))
theorem gIfGt (X : Stand p l e R s m args below meth c T locs cells slots) (hx : p.tables.exec = Jvm.exec) {o : Int} {x : Int32} {pn : Nat} (hd : decode c.code pc = .ok (.ifCond .gt o, 3)) (ho : 0 ≤ (pc : Int) + o) (hp : ((pc : Int) + o).toNat = pc') (hn : pc + 3 = pn) (kY : (0 : Int) < x.toInt → Goes p e below F T (mkF m pc' ls st)) (kN : x.toInt ≤ (0 : Int) → Goes p e below F T (mkF m pn ls st)) : Goes p e below F T (mkF m pc ls (.int x :: st)) :=
  gIf X hx hd ho hp hn (fun q => kY (by simpa [ifCond.holds, Int32.lt_iff_toInt_lt, Int32.le_iff_toInt_le] using q)) (fun q => kN (by simpa [ifCond.holds, Int32.lt_iff_toInt_lt, Int32.le_iff_toInt_le] using q))
theorem gIcmpLe (X : Stand p l e R s m args below meth c T locs cells slots) (hx : p.tables.exec = Jvm.exec) {o : Int} {x y : Int32} {pn : Nat} (hd : decode c.code pc = .ok (.if_icmp .le o, 3)) (ho : 0 ≤ (pc : Int) + o) (hp : ((pc : Int) + o).toNat = pc') (hn : pc + 3 = pn) (kY : x.toInt ≤ y.toInt → Goes p e below F T (mkF m pc' ls st)) (kN : y.toInt < x.toInt → Goes p e below F T (mkF m pn ls st)) : Goes p e below F T (mkF m pc ls (.int y :: .int x :: st)) :=
  gIcmp X hx hd ho hp hn (fun q => kY (by simpa [if_icmp.holds, Int32.lt_iff_toInt_lt, Int32.le_iff_toInt_le] using q)) (fun q => kN (by simpa [if_icmp.holds, Int32.lt_iff_toInt_lt, Int32.le_iff_toInt_le] using q))
theorem gIfLe (X : Stand p l e R s m args below meth c T locs cells slots) (hx : p.tables.exec = Jvm.exec) {o : Int} {x : Int32} {pn : Nat} (hd : decode c.code pc = .ok (.ifCond .le o, 3)) (ho : 0 ≤ (pc : Int) + o) (hp : ((pc : Int) + o).toNat = pc') (hn : pc + 3 = pn) (kY : x.toInt ≤ (0 : Int) → Goes p e below F T (mkF m pc' ls st)) (kN : (0 : Int) < x.toInt → Goes p e below F T (mkF m pn ls st)) : Goes p e below F T (mkF m pc ls (.int x :: st)) :=
  gIf X hx hd ho hp hn (fun q => kY (by simpa [ifCond.holds, Int32.lt_iff_toInt_lt, Int32.le_iff_toInt_le] using q)) (fun q => kN (by simpa [ifCond.holds, Int32.lt_iff_toInt_lt, Int32.le_iff_toInt_le] using q))
theorem gIcmpEqT (X : Stand p l e R s m args below meth c T locs cells slots) (hx : p.tables.exec = Jvm.exec) {o : Int} {x y : Int32} {pn : Nat} (hd : decode c.code pc = .ok (.if_icmp .eq o, 3)) (ho : 0 ≤ (pc : Int) + o) (hp : ((pc : Int) + o).toNat = pc') (hn : pc + 3 = pn) (kY : x.toInt = y.toInt → Goes p e below F T (mkF m pc' ls st)) (kN : ¬ x.toInt = y.toInt → Goes p e below F T (mkF m pn ls st)) : Goes p e below F T (mkF m pc ls (.int y :: .int x :: st)) :=
  gIcmpEq X hx hd ho hp hn (fun q => kY ((Int32.toInt_inj (x := x) (y := y)).mpr q)) (fun q => kN (fun z => q ((Int32.toInt_inj (x := x) (y := y)).mp z)))
theorem gIfEqT (X : Stand p l e R s m args below meth c T locs cells slots) (hx : p.tables.exec = Jvm.exec) {o : Int} {x : Int32} {pn : Nat} (hd : decode c.code pc = .ok (.ifCond .eq o, 3)) (ho : 0 ≤ (pc : Int) + o) (hp : ((pc : Int) + o).toNat = pc') (hn : pc + 3 = pn) (kY : x.toInt = (0 : Int) → Goes p e below F T (mkF m pc' ls st)) (kN : ¬ x.toInt = (0 : Int) → Goes p e below F T (mkF m pn ls st)) : Goes p e below F T (mkF m pc ls (.int x :: st)) :=
  gIfEq X hx hd ho hp hn (fun q => kY ((Int32.toInt_inj (x := x) (y := 0)).mpr q)) (fun q => kN (fun z => q ((Int32.toInt_inj (x := x) (y := 0)).mp z)))
theorem gIcmpNeT (X : Stand p l e R s m args below meth c T locs cells slots) (hx : p.tables.exec = Jvm.exec) {o : Int} {x y : Int32} {pn : Nat} (hd : decode c.code pc = .ok (.if_icmp .ne o, 3)) (ho : 0 ≤ (pc : Int) + o) (hp : ((pc : Int) + o).toNat = pc') (hn : pc + 3 = pn) (kY : ¬ x.toInt = y.toInt → Goes p e below F T (mkF m pc' ls st)) (kN : x.toInt = y.toInt → Goes p e below F T (mkF m pn ls st)) : Goes p e below F T (mkF m pc ls (.int y :: .int x :: st)) :=
  gIcmpNe X hx hd ho hp hn (fun q => kY (fun z => q ((Int32.toInt_inj (x := x) (y := y)).mp z))) (fun q => kN ((Int32.toInt_inj (x := x) (y := y)).mpr q))
theorem gIfNeT (X : Stand p l e R s m args below meth c T locs cells slots) (hx : p.tables.exec = Jvm.exec) {o : Int} {x : Int32} {pn : Nat} (hd : decode c.code pc = .ok (.ifCond .ne o, 3)) (ho : 0 ≤ (pc : Int) + o) (hp : ((pc : Int) + o).toNat = pc') (hn : pc + 3 = pn) (kY : ¬ x.toInt = (0 : Int) → Goes p e below F T (mkF m pc' ls st)) (kN : x.toInt = (0 : Int) → Goes p e below F T (mkF m pn ls st)) : Goes p e below F T (mkF m pc ls (.int x :: st)) :=
  gIfNe X hx hd ho hp hn (fun q => kY (fun z => q ((Int32.toInt_inj (x := x) (y := 0)).mp z))) (fun q => kN ((Int32.toInt_inj (x := x) (y := 0)).mpr q))
theorem gAcmp (X : Stand p l e R s m args below meth c T locs cells slots) (hx : p.tables.exec = Jvm.exec) {cd : ClassFile.ACond} {o : Int} {x y : Value} {pn : Nat} (hd : decode c.code pc = .ok (.if_acmp cd o, 3)) (h1 : x.isRef = true) (h2 : y.isRef = true) (ho : 0 ≤ (pc : Int) + o) (hp : ((pc : Int) + o).toNat = pc') (hn : pc + 3 = pn) (kS : x = y → Goes p e below F T (mkF m (match cd with | .eq => pc' | .ne => pn) ls st)) (kD : ¬ x = y → Goes p e below F T (mkF m (match cd with | .eq => pn | .ne => pc') ls st)) : Goes p e below F T (mkF m pc ls (y :: x :: st)) := by
  subst hn hp
  by_cases q : x = y
  · refine Goes.fore (fun _ k => acmp X hx rfl h1 h2 (same := true) rfl hd rfl (decide_eq_true q) ho rfl k) ?_
    have := kS q; cases cd <;> simpa [acV] using this
  · refine Goes.fore (fun _ k => acmp X hx rfl h1 h2 (same := false) rfl hd rfl (decide_eq_false q) ho rfl k) ?_
    have := kD q; cases cd <;> simpa [acV] using this
theorem gAcmpEq (X : Stand p l e R s m args below meth c T locs cells slots) (hx : p.tables.exec = Jvm.exec) {o : Int} {x y : Value} {pn : Nat} (hd : decode c.code pc = .ok (.if_acmp .eq o, 3)) (h1 : x.isRef = true) (h2 : y.isRef = true) (ho : 0 ≤ (pc : Int) + o) (hp : ((pc : Int) + o).toNat = pc') (hn : pc + 3 = pn) (kY : x = y → Goes p e below F T (mkF m pc' ls st)) (kN : ¬ x = y → Goes p e below F T (mkF m pn ls st)) : Goes p e below F T (mkF m pc ls (y :: x :: st)) := gAcmp X hx hd h1 h2 ho hp hn kY kN
theorem gAcmpNe (X : Stand p l e R s m args below meth c T locs cells slots) (hx : p.tables.exec = Jvm.exec) {o : Int} {x y : Value} {pn : Nat} (hd : decode c.code pc = .ok (.if_acmp .ne o, 3)) (h1 : x.isRef = true) (h2 : y.isRef = true) (ho : 0 ≤ (pc : Int) + o) (hp : ((pc : Int) + o).toNat = pc') (hn : pc + 3 = pn) (kY : ¬ x = y → Goes p e below F T (mkF m pc' ls st)) (kN : x = y → Goes p e below F T (mkF m pn ls st)) : Goes p e below F T (mkF m pc ls (y :: x :: st)) := gAcmp X hx hd h1 h2 ho hp hn kN kY
theorem gIfnullZ (X : Stand p l e R s m args below meth c T locs cells slots) (hx : p.tables.exec = Jvm.exec) {o : Int} (hd : decode c.code pc = .ok (.ifnull o, 3)) (ho : 0 ≤ (pc : Int) + o) (hp : ((pc : Int) + o).toNat = pc') (k : Goes p e below F T (mkF m pc' ls st)) : Goes p e below F T (mkF m pc ls (.null :: st)) := Goes.fore (fun _ q => XS.ifnullYes X.here hx rfl rfl hd rfl ho hp q) k
theorem gIfnullR (X : Stand p l e R s m args below meth c T locs cells slots) (hx : p.tables.exec = Jvm.exec) {o : Int} {b : Addr} (hd : decode c.code pc = .ok (.ifnull o, 3)) (hp : pc + 3 = pc') (k : Goes p e below F T (mkF m pc' ls st)) : Goes p e below F T (mkF m pc ls (.ref b :: st)) := by
  subst hp; exact Goes.fore (fun _ q => XS.ifnullNo X.here hx rfl hd rfl q) k
theorem gIfnonnullZ (X : Stand p l e R s m args below meth c T locs cells slots) (hx : p.tables.exec = Jvm.exec) {o : Int} (hd : decode c.code pc = .ok (.ifnonnull o, 3)) (hp : pc + 3 = pc') (k : Goes p e below F T (mkF m pc' ls st)) : Goes p e below F T (mkF m pc ls (.null :: st)) := by
  subst hp; exact Goes.fore (fun _ q => XS.ifnonnullNo X.here hx rfl hd rfl q) k
theorem gIfnonnullR (X : Stand p l e R s m args below meth c T locs cells slots) (hx : p.tables.exec = Jvm.exec) {o : Int} {b : Addr} (hd : decode c.code pc = .ok (.ifnonnull o, 3)) (ho : 0 ≤ (pc : Int) + o) (hp : ((pc : Int) + o).toNat = pc') (k : Goes p e below F T (mkF m pc' ls st)) : Goes p e below F T (mkF m pc ls (.ref b :: st)) := Goes.fore (fun _ q => XS.ifnonnullYes X.here hx rfl rfl hd rfl ho hp q) k
theorem gRet0 {v : Option Value} (X : Stand p l e R s m args below meth c T locs cells slots) (hx : p.tables.exec = Jvm.exec) (hlk : meth.locks = false) (hv : meth.sig.returnType = none → v = none) (hk : cells ≤ kc) (hs : slots ≤ ks) (hq : Q v T.heap locs) {g : JFrame}
    (k : ∀ fs, (∀ (f : JFrame) (acts : List Action), f.method = m → f.locked = none → f.entered = [] → (doReturn e (T.setTop f) acts v).1 = T.setFrames fs) → Steps p.tables e below (T.setTop g) (T.setFrames fs)) : Goes p e below (FinN s kc ks Q) T g := by
  obtain ⟨fs, hr, hrun, hended, hW, hsame⟩ := X.leave hv hlk
  exact ⟨_, _, k fs hr, hrun, hended, _, _, rfl, hq, ⟨_, rfl⟩, hW, hsame.mono hk hs⟩
theorem gRetV (X : Stand p l e R s m args below meth c T locs cells slots) (hx : p.tables.exec = Jvm.exec) (hlk : meth.locks = false) (hret : meth.sig.returnType = none) (hd : decode c.code pc = .ok (.return_, 1)) (hk : cells ≤ kc) (hs : slots ≤ ks) (hq : Q none T.heap locs) : Goes p e below (FinN s kc ks Q) T (mkF m pc ls []) :=
  gRet0 X hx hlk (fun _ => rfl) hk hs hq fun fs hr => X.returnOut hx hret hd hr
theorem gRetN (X : Stand p l e R s m args below meth c T locs cells slots) (hx : p.tables.exec = Jvm.exec) (hlk : meth.locks = false) {t : FieldType} (hret : meth.sig.returnType = some t) (ht : t = .boolean ∨ t = .byte ∨ t = .char ∨ t = .short) {z w : Int32} (hd : decode c.code pc = .ok (.ireturn, 1)) (hw : nar t z = w) (hk : cells ≤ kc) (hs : slots ≤ ks) (hq : Q (some (.int w)) T.heap locs) : Goes p e below (FinN s kc ks Q) T (mkF m pc ls (.int z :: st)) := by
  subst hw
  exact gRet0 X hx hlk (fun h => by rw [hret] at h; cases h) hk hs hq fun fs hr => retN X hx hret ht hd hr
theorem gRetI (X : Stand p l e R s m args below meth c T locs cells slots) (hx : p.tables.exec = Jvm.exec) (hlk : meth.locks = false) (hret : meth.sig.returnType = some .int) {z : Int32} (hd : decode c.code pc = .ok (.ireturn, 1)) (hk : cells ≤ kc) (hs : slots ≤ ks) (hq : Q (some (.int z)) T.heap locs) : Goes p e below (FinN s kc ks Q) T (mkF m pc ls (.int z :: st)) :=
  gRet0 X hx hlk (fun h => by rw [hret] at h; cases h) hk hs hq fun fs hr => retOut X hx hret rfl (Or.inl ⟨rfl, Or.inl rfl, z, rfl⟩) hd hr
theorem gRetJ (X : Stand p l e R s m args below meth c T locs cells slots) (hx : p.tables.exec = Jvm.exec) (hlk : meth.locks = false) (hret : meth.sig.returnType = some .long) {z : Int64} (hd : decode c.code pc = .ok (.lreturn, 1)) (hk : cells ≤ kc) (hs : slots ≤ ks) (hq : Q (some (.long z)) T.heap locs) : Goes p e below (FinN s kc ks Q) T (mkF m pc ls (.long z :: st)) :=
  gRet0 X hx hlk (fun h => by rw [hret] at h; cases h) hk hs hq fun fs hr => retOut X hx hret rfl (Or.inr (Or.inl ⟨rfl, rfl, z, rfl⟩)) hd hr
theorem gRetA (X : Stand p l e R s m args below meth c T locs cells slots) (hx : p.tables.exec = Jvm.exec) (hlk : meth.locks = false) {t : FieldType} (hret : meth.sig.returnType = some t) (ht : t.isReference = true) {v : Value} (hv : v.isRef = true) (hd : decode c.code pc = .ok (.areturn, 1)) (hk : cells ≤ kc) (hs : slots ≤ ks) (hq : Q (some v) T.heap locs) : Goes p e below (FinN s kc ks Q) T (mkF m pc ls (v :: st)) :=
  gRet0 X hx hlk (fun h => by rw [hret] at h; cases h) hk hs hq fun fs hr => retOut X hx hret (by cases t <;> first | rfl | cases ht) (Or.inr (Or.inr (Or.inr (Or.inr ⟨rfl, ht, hv⟩)))) hd hr
theorem gGetS (X : Stand p l e R s m args below meth c T locs cells slots) (hx : p.tables.exec = Jvm.exec) (hZ : Z.Warmed39 s.vm) {own R0 O n d : String} {i : Nat} (hown : s.vm.findClass own = some m.cls) (w : (Jvm.Cond.fieldLink own i R0 n d).before a0 Z = true) (via : Via Z R0 O n d) (eT : T.heap = h) {v : Value} (Fa : Sta Z h O n d v) (hd : decode c.code pc = .ok (.getstatic i, 3)) (hp : pc + 3 = pc')
    (k : ∀ T', Stand p l e R s m args below meth c T' locs cells slots → T'.heap = h → Goes p e below F T' (mkF m pc' ls (v :: st))) : Goes p e below F T (mkF m pc ls st) := by
  subst hp
  obtain ⟨T', X', e', st'⟩ := getS X hx hZ (host := "") hown w via eT Fa (g := mkF m pc ls st) rfl hd
  exact Goes.fore st' (k T' X' e')
theorem gGetF (X : Stand p l e R s m args below meth c T locs cells slots) (hx : p.tables.exec = Jvm.exec) (hZ : Z.Warmed39 s.vm) {own R0 O n d : String} {i : Nat} (hown : s.vm.findClass own = some m.cls) (w : (Jvm.Cond.fieldLink own i R0 n d).before a0 Z = true) (via : Via Z R0 O n d) (eT : T.heap = h) {a : Addr} {v : Value} (Fa : Fld Z h a O n d v) (hd : decode c.code pc = .ok (.getfield i, 3)) (hp : pc + 3 = pc')
    (k : ∀ T', Stand p l e R s m args below meth c T' locs cells slots → T'.heap = h → Goes p e below F T' (mkF m pc' ls (v :: st))) : Goes p e below F T (mkF m pc ls (.ref a :: st)) := by
  subst hp
  obtain ⟨T', X', e', st'⟩ := getF X hx hZ (host := "") hown (Or.inl w) via eT Fa (g := mkF m pc ls (.ref a :: st)) rfl rfl hd
  exact Goes.fore st' (k T' X' e')
theorem gCallS (X : Stand p l e R s m args below meth c T locs cells slots) (hx : p.tables.exec = Jvm.exec) (hZ : Z.Warmed39 s.vm) {y : MethodName} {bytes : ByteArray} {maxL : Nat} {ret : Option FieldType} {rm : Room} {own : String} {i : Nat} {Qc : Option Value → Heap → List Loc → Prop} (hown : s.vm.findClass own = some m.cls) (eT : T.heap = h) (hml : ls.size = c.maxLocals)
    (w1 : (Jvm.Cond.methodLink own i y).before a0 Z = true) (w2 : (Jvm.Cond.static y).before a0 Z = true) (w3 : (Jvm.Cond.initialized y.cls).before a0 Z = true) (w4 : (Jvm.Cond.code y bytes maxL ret).before a0 Z = true) (hy : y.cls ≠ "java/lang/invoke/MethodHandle" ∧ y.cls ≠ "java/lang/invoke/VarHandle")
    {argsL : List Value} {stk : List Value} (hC : Ctr l Z y bytes maxL ret [] rm argsL.toArray h Qc) (hlen : ∀ sig, parseMethodDescriptor y.desc = some sig → argsL.length = sig.parameters.length) (hd : decode c.code pc = .ok (.invokestatic i, 3)) (hp : pc + 3 = pc') (hst : stk = argsL.reverse ++ st)
    (hf : rm.frames + 1 ≤ R.frames) {W : Nat} (hW : (st.map fun v => v.category).sum ≤ W) (hlo : W + (maxL + 11) + rm.locals ≤ R.locals) (hce : cells + rm.cells ≤ R.cells) (hsl : slots + rm.slots ≤ R.slots)
    (k : ∀ T' v L, Stand p l e R s m args below meth c T' (locs ++ L) (cells + rm.cells) (slots + rm.slots) → Qc v T'.heap L → Goes p e below F T' (mkF m pc' ls (v.toList ++ st))) : Goes p e below F T (mkF m pc ls stk) := by
  subst hp hst
  obtain ⟨v, _, ⟨T', L', k', n'⟩, -, X', ⟨Lc, hQ, l1, y1, z1⟩, st'⟩ := Jvm.LawKit.callS X hx (y := y) hown (mvT hZ w1) (mvT hZ w2) (mvT hZ w3) (mvT hZ w4) hy (backOf (W := W) hC hZ w4 w3 hf hlo) (g := mkF m pc ls (argsL.reverse ++ st)) rfl hml (argsL := argsL) (rest := st) hlen rfl (by show 2 * 0 + _ ≤ _; omega) hd (fun _ _ => ⟨rfl, eT, hce, hsl⟩)
  dsimp only [Pt.U, Pt.locs, Pt.cells, Pt.slots] at X' l1 y1 z1 st' hQ
  subst l1 y1 z1
  exact Goes.fore st' (k T' v Lc X' hQ)
theorem gCallSJ (X : Stand p l e R s m args below meth c T locs cells slots) (hx : p.tables.exec = Jvm.exec) (hZ : Z.Warmed39 s.vm) {y : MethodName} {bytes : ByteArray} {maxL : Nat} {ret : Option FieldType} {rm : Room} {own : String} {i : Nat} {w : Value} (hown : s.vm.findClass own = some m.cls) (eT : T.heap = h) (hml : ls.size = c.maxLocals)
    (w1 : (Jvm.Cond.methodLink own i y).before a0 Z = true) (w2 : (Jvm.Cond.static y).before a0 Z = true) (w3 : (Jvm.Cond.initialized y.cls).before a0 Z = true) (w4 : (Jvm.Cond.code y bytes maxL ret).before a0 Z = true) (hy : y.cls ≠ "java/lang/invoke/MethodHandle" ∧ y.cls ≠ "java/lang/invoke/VarHandle")
    {argsL : List Value} {stk : List Value} (hC : Ctr l Z y bytes maxL ret [] rm argsL.toArray h (Just h w)) (hlen : ∀ sig, parseMethodDescriptor y.desc = some sig → argsL.length = sig.parameters.length) (hd : decode c.code pc = .ok (.invokestatic i, 3)) (hp : pc + 3 = pc') (hst : stk = argsL.reverse ++ st)
    (h0c : rm.cells = 0) (h0s : rm.slots = 0) (hf : rm.frames + 1 ≤ R.frames) {W : Nat} (hW : (st.map fun v => v.category).sum ≤ W) (hlo : W + (maxL + 11) + rm.locals ≤ R.locals) (hce : cells + rm.cells ≤ R.cells) (hsl : slots + rm.slots ≤ R.slots)
    (k : ∀ T', Stand p l e R s m args below meth c T' locs cells slots → T'.heap = h → Goes p e below F T' (mkF m pc' ls (w :: st))) : Goes p e below F T (mkF m pc ls stk) := by
  refine gCallS X hx hZ hown eT hml w1 w2 w3 w4 hy hC hlen hd hp hst hf hW hlo hce hsl ?_
  rintro T' v L X' ⟨rfl, e', rfl⟩
  rw [List.append_nil, h0c, h0s] at X'
  exact k T' X' e'
theorem gCallV (X : Stand p l e R s m args below meth c T locs cells slots) (hx : p.tables.exec = Jvm.exec) (hZ : Z.Warmed39 s.vm) {y : MethodName} {bytes : ByteArray} {maxL : Nat} {ret : Option FieldType} {rm : Room} {own : String} {i : Nat} {Qc : Option Value → Heap → List Loc → Prop} {C : String} {a : Addr} (hown : s.vm.findClass own = some m.cls) (eT : T.heap = h) (hml : ls.size = c.maxLocals) (E : Exa Z h a C)
    (w1 : (Jvm.Cond.methodLink own i y).before a0 Z = true) (w2 : (Jvm.Cond.declares y).before a0 Z = true) (w5 : (Jvm.Cond.selects C y y).before a0 Z = true) (w6 : (Jvm.Cond.instanceMethod y).before a0 Z = true) (w3 : (Jvm.Cond.initialized y.cls).before a0 Z = true) (w4 : (Jvm.Cond.code y bytes maxL ret).before a0 Z = true) (hy : y.cls ≠ "java/lang/invoke/MethodHandle" ∧ y.cls ≠ "java/lang/invoke/VarHandle")
    {argsL : List Value} {stk : List Value} (hC : Ctr l Z y bytes maxL ret [] rm (.ref a :: argsL).toArray h Qc) (hlen : ∀ sig, parseMethodDescriptor y.desc = some sig → argsL.length = sig.parameters.length) (hd : decode c.code pc = .ok (.invokevirtual i, 3)) (hp : pc + 3 = pc') (hst : stk = argsL.reverse ++ .ref a :: st)
    (hf : rm.frames + 1 ≤ R.frames) {W : Nat} (hW : (st.map fun v => v.category).sum ≤ W) (hlo : W + (maxL + 11) + rm.locals ≤ R.locals) (hce : cells + rm.cells ≤ R.cells) (hsl : slots + rm.slots ≤ R.slots)
    (k : ∀ T' v L, Stand p l e R s m args below meth c T' (locs ++ L) (cells + rm.cells) (slots + rm.slots) → Qc v T'.heap L → Goes p e below F T' (mkF m pc' ls (v.toList ++ st))) : Goes p e below F T (mkF m pc ls stk) := by
  subst hp hst
  obtain ⟨cq, kq, qa, qb, qc⟩ := isOf hZ eT E
  obtain ⟨v, _, ⟨T', L', k', n'⟩, -, X', ⟨Lc, hQ, l1, y1, z1⟩, st'⟩ := X.virtualBack hx (y := y) (z := y) hown (mvT hZ w1) (mvT hZ w2) (notFace_of_selects (args := #[]) (mvT hZ w5)) (mvT hZ w5) (mvT hZ w6) hy (backOf (W := W) hC hZ w4 w3 hf hlo) qa qc (g := mkF m pc ls (argsL.reverse ++ .ref a :: st)) rfl hml (Steps.refl _) (argsL := argsL) (rest := st) hlen rfl (by show 2 * 0 + _ ≤ _; omega) hd (fun _ _ => ⟨rfl, eT, hce, hsl⟩)
  dsimp only [Pt.U, Pt.locs, Pt.cells, Pt.slots] at X' l1 y1 z1 st' hQ
  subst l1 y1 z1
  exact Goes.tr st' (k T' v Lc X' hQ)
theorem gCallVJ (X : Stand p l e R s m args below meth c T locs cells slots) (hx : p.tables.exec = Jvm.exec) (hZ : Z.Warmed39 s.vm) {y : MethodName} {bytes : ByteArray} {maxL : Nat} {ret : Option FieldType} {rm : Room} {own : String} {i : Nat} {w : Value} {C : String} {a : Addr} (hown : s.vm.findClass own = some m.cls) (eT : T.heap = h) (hml : ls.size = c.maxLocals) (E : Exa Z h a C)
    (w1 : (Jvm.Cond.methodLink own i y).before a0 Z = true) (w2 : (Jvm.Cond.declares y).before a0 Z = true) (w5 : (Jvm.Cond.selects C y y).before a0 Z = true) (w6 : (Jvm.Cond.instanceMethod y).before a0 Z = true) (w3 : (Jvm.Cond.initialized y.cls).before a0 Z = true) (w4 : (Jvm.Cond.code y bytes maxL ret).before a0 Z = true) (hy : y.cls ≠ "java/lang/invoke/MethodHandle" ∧ y.cls ≠ "java/lang/invoke/VarHandle")
    {argsL : List Value} {stk : List Value} (hC : Ctr l Z y bytes maxL ret [] rm (.ref a :: argsL).toArray h (Just h w)) (hlen : ∀ sig, parseMethodDescriptor y.desc = some sig → argsL.length = sig.parameters.length) (hd : decode c.code pc = .ok (.invokevirtual i, 3)) (hp : pc + 3 = pc') (hst : stk = argsL.reverse ++ .ref a :: st)
    (h0c : rm.cells = 0) (h0s : rm.slots = 0) (hf : rm.frames + 1 ≤ R.frames) {W : Nat} (hW : (st.map fun v => v.category).sum ≤ W) (hlo : W + (maxL + 11) + rm.locals ≤ R.locals) (hce : cells + rm.cells ≤ R.cells) (hsl : slots + rm.slots ≤ R.slots)
    (k : ∀ T', Stand p l e R s m args below meth c T' locs cells slots → T'.heap = h → Goes p e below F T' (mkF m pc' ls (w :: st))) : Goes p e below F T (mkF m pc ls stk) := by
  refine gCallV X hx hZ hown eT hml E w1 w2 w5 w6 w3 w4 hy hC hlen hd hp hst hf hW hlo hce hsl ?_
  rintro T' v L X' ⟨rfl, e', rfl⟩
  rw [List.append_nil, h0c, h0s] at X'
  exact k T' X' e'
theorem gLIfEq (X : Stand p l e R s m args below meth c T locs cells slots) (hx : p.tables.exec = Jvm.exec) {o : Int} {x y : Int64} {pn : Nat} (hd : decode c.code pc = .ok (.ifCond .eq o, 3)) (ho : 0 ≤ (pc : Int) + o) (hp : ((pc : Int) + o).toNat = pc') (hn : pc + 3 = pn) (kY : x = y → Goes p e below F T (mkF m pc' ls st)) (kN : ¬ x = y → Goes p e below F T (mkF m pn ls st)) : Goes p e below F T (mkF m pc ls (.int (lcmpW x y) :: st)) := by
  have z := lw_eq x y
  refine gIf X hx hd ho hp hn (fun q => kY ?_) (fun q => kN ?_) <;> simp only [ifCond.holds, decide_eq_true_eq, decide_eq_false_iff_not, beq_iff_eq, bne_iff_ne, Int32.not_lt, Int32.not_le, Int32.lt_iff_toInt_lt, Int32.le_iff_toInt_le, Int64.lt_iff_toInt_lt, ← Int32.toInt_inj, beq_eq_false_iff_ne, bne_eq_false_iff_eq, ne_eq] at q z ⊢ <;> first | exact z.mp q | exact fun k => q (z.mpr k) | omega
theorem gLIfNe (X : Stand p l e R s m args below meth c T locs cells slots) (hx : p.tables.exec = Jvm.exec) {o : Int} {x y : Int64} {pn : Nat} (hd : decode c.code pc = .ok (.ifCond .ne o, 3)) (ho : 0 ≤ (pc : Int) + o) (hp : ((pc : Int) + o).toNat = pc') (hn : pc + 3 = pn) (kY : ¬ x = y → Goes p e below F T (mkF m pc' ls st)) (kN : x = y → Goes p e below F T (mkF m pn ls st)) : Goes p e below F T (mkF m pc ls (.int (lcmpW x y) :: st)) := by
  have z := lw_eq x y
  refine gIf X hx hd ho hp hn (fun q => kY ?_) (fun q => kN ?_) <;> simp only [ifCond.holds, decide_eq_true_eq, decide_eq_false_iff_not, beq_iff_eq, bne_iff_ne, Int32.not_lt, Int32.not_le, Int32.lt_iff_toInt_lt, Int32.le_iff_toInt_le, Int64.lt_iff_toInt_lt, ← Int32.toInt_inj, beq_eq_false_iff_ne, bne_eq_false_iff_eq, ne_eq] at q z ⊢ <;> first | exact z.mp q | exact fun k => q (z.mpr k) | omega
theorem gLIfLt (X : Stand p l e R s m args below meth c T locs cells slots) (hx : p.tables.exec = Jvm.exec) {o : Int} {x y : Int64} {pn : Nat} (hd : decode c.code pc = .ok (.ifCond .lt o, 3)) (ho : 0 ≤ (pc : Int) + o) (hp : ((pc : Int) + o).toNat = pc') (hn : pc + 3 = pn) (kY : x.toInt < y.toInt → Goes p e below F T (mkF m pc' ls st)) (kN : y.toInt ≤ x.toInt → Goes p e below F T (mkF m pn ls st)) : Goes p e below F T (mkF m pc ls (.int (lcmpW x y) :: st)) := by
  have z := lw_lt x y
  refine gIf X hx hd ho hp hn (fun q => kY ?_) (fun q => kN ?_) <;> simp only [ifCond.holds, decide_eq_true_eq, decide_eq_false_iff_not, beq_iff_eq, bne_iff_ne, Int32.not_lt, Int32.not_le, Int32.lt_iff_toInt_lt, Int32.le_iff_toInt_le, Int64.lt_iff_toInt_lt, ← Int32.toInt_inj, beq_eq_false_iff_ne, bne_eq_false_iff_eq, ne_eq] at q z ⊢ <;> first | exact z.mp q | exact fun k => q (z.mpr k) | omega
theorem gLIfGe (X : Stand p l e R s m args below meth c T locs cells slots) (hx : p.tables.exec = Jvm.exec) {o : Int} {x y : Int64} {pn : Nat} (hd : decode c.code pc = .ok (.ifCond .ge o, 3)) (ho : 0 ≤ (pc : Int) + o) (hp : ((pc : Int) + o).toNat = pc') (hn : pc + 3 = pn) (kY : y.toInt ≤ x.toInt → Goes p e below F T (mkF m pc' ls st)) (kN : x.toInt < y.toInt → Goes p e below F T (mkF m pn ls st)) : Goes p e below F T (mkF m pc ls (.int (lcmpW x y) :: st)) := by
  have z := lw_lt x y
  refine gIf X hx hd ho hp hn (fun q => kY ?_) (fun q => kN ?_) <;> simp only [ifCond.holds, decide_eq_true_eq, decide_eq_false_iff_not, beq_iff_eq, bne_iff_ne, Int32.not_lt, Int32.not_le, Int32.lt_iff_toInt_lt, Int32.le_iff_toInt_le, Int64.lt_iff_toInt_lt, ← Int32.toInt_inj, beq_eq_false_iff_ne, bne_eq_false_iff_eq, ne_eq] at q z ⊢ <;> first | exact z.mp q | exact fun k => q (z.mpr k) | omega
theorem gLIfGt (X : Stand p l e R s m args below meth c T locs cells slots) (hx : p.tables.exec = Jvm.exec) {o : Int} {x y : Int64} {pn : Nat} (hd : decode c.code pc = .ok (.ifCond .gt o, 3)) (ho : 0 ≤ (pc : Int) + o) (hp : ((pc : Int) + o).toNat = pc') (hn : pc + 3 = pn) (kY : y.toInt < x.toInt → Goes p e below F T (mkF m pc' ls st)) (kN : x.toInt ≤ y.toInt → Goes p e below F T (mkF m pn ls st)) : Goes p e below F T (mkF m pc ls (.int (lcmpW x y) :: st)) := by
  have z := lw_gt x y
  refine gIf X hx hd ho hp hn (fun q => kY ?_) (fun q => kN ?_) <;> simp only [ifCond.holds, decide_eq_true_eq, decide_eq_false_iff_not, beq_iff_eq, bne_iff_ne, Int32.not_lt, Int32.not_le, Int32.lt_iff_toInt_lt, Int32.le_iff_toInt_le, Int64.lt_iff_toInt_lt, ← Int32.toInt_inj, beq_eq_false_iff_ne, bne_eq_false_iff_eq, ne_eq] at q z ⊢ <;> first | exact z.mp q | exact fun k => q (z.mpr k) | omega
theorem gLIfLe (X : Stand p l e R s m args below meth c T locs cells slots) (hx : p.tables.exec = Jvm.exec) {o : Int} {x y : Int64} {pn : Nat} (hd : decode c.code pc = .ok (.ifCond .le o, 3)) (ho : 0 ≤ (pc : Int) + o) (hp : ((pc : Int) + o).toNat = pc') (hn : pc + 3 = pn) (kY : x.toInt ≤ y.toInt → Goes p e below F T (mkF m pc' ls st)) (kN : y.toInt < x.toInt → Goes p e below F T (mkF m pn ls st)) : Goes p e below F T (mkF m pc ls (.int (lcmpW x y) :: st)) := by
  have z := lw_gt x y
  refine gIf X hx hd ho hp hn (fun q => kY ?_) (fun q => kN ?_) <;> simp only [ifCond.holds, decide_eq_true_eq, decide_eq_false_iff_not, beq_iff_eq, bne_iff_ne, Int32.not_lt, Int32.not_le, Int32.lt_iff_toInt_lt, Int32.le_iff_toInt_le, Int64.lt_iff_toInt_lt, ← Int32.toInt_inj, beq_eq_false_iff_ne, bne_eq_false_iff_eq, ne_eq] at q z ⊢ <;> first | exact z.mp q | exact fun k => q (z.mpr k) | omega
theorem gNew (X : Stand p l e R s m args below meth c T locs cells slots) (hx : p.tables.exec = Jvm.exec) (hZ : Z.Warmed39 s.vm) {own C : String} {i n : Nat} (hown : s.vm.findClass own = some m.cls) (w : (Jvm.Cond.classLink own i C).before a0 Z = true) (wi : (Jvm.Cond.instantiable C n).before a0 Z = true) (wz : (Jvm.Cond.initialized C).before a0 Z = true) (eT : T.heap = h) (hd : decode c.code pc = .ok (.new i, 3)) (hp : pc + 3 = pc') (hc : cells + 1 ≤ R.cells) (hl : slots + n ≤ R.slots)
    (k : ∀ T' h' b, Stand p l e R s m args below meth c T' locs (cells + 1) (slots + n) → T'.heap = h' → b = h.size → Ext h h' → Exa Z h' b C → (∀ {O nm d : String} {ty : FieldType}, Laid Z a0 C O nm d → parseFieldDescriptor d = some ty → Fld Z h' b O nm d (defaultValue ty)) → Goes p e below F T' (mkF m pc' ls (.ref b :: st))) : Goes p e below F T (mkF m pc ls st) := by
  subst hp
  obtain ⟨T', h', X', e', E, A, D, -, st'⟩ := newO X hx hZ hown w wi wz eT (g := mkF m pc ls st) rfl hd hc hl
  exact Goes.fore st' (k T' h' _ X' e' rfl E A D)
theorem gPutF (X : Stand p l e R s m args below meth c T locs cells slots) (hx : p.tables.exec = Jvm.exec) (hZ : Z.Warmed39 s.vm) {own R0 O n d C : String} {i kk : Nat} {ty : FieldType} (hown : s.vm.findClass own = some m.cls) (w : (Jvm.Cond.fieldLink own i R0 n d).before a0 Z = true) (via : Via Z R0 O n d) (eT : T.heap = h) {a : Addr} {v old : Value} (Fa : Fld Z h a O n d old) (E : Exa Z h a C) (L : (Jvm.Cond.lays C O n d).before a0 Z = true ∨ ((Jvm.Cond.laysFinal C O n d).before a0 Z = true ∧ own = O ∧ meth.name = "<init>")) (wi : (Jvm.Cond.instantiable C kk).before a0 Z = true)
    (hty : parseFieldDescriptor d = some ty) (hn : narrow ty v = v) (hf : fits ty v = true) (hd : decode c.code pc = .ok (.putfield i, 3)) (hp : pc + 3 = pc')
    (k : ∀ T' h', Stand p l e R s m args below meth c T' (locs ++ [⟨a, RoadKit.slotOf Z O n d⟩]) cells slots → T'.heap = h' → Wr h h' a (RoadKit.slotOf Z O n d) v → Goes p e below F T' (mkF m pc' ls st)) : Goes p e below F T (mkF m pc ls (v :: .ref a :: st)) := by
  subst hp
  obtain ⟨T', h', X', e', W, st'⟩ := putF X hx hZ (host := "") hown (Or.inl w) via eT Fa E L wi hty hn hf (g := mkF m pc ls (v :: .ref a :: st)) rfl rfl hd
  exact Goes.fore st' (k T' h' X' e' W)
theorem gInitO (X : Stand p l e R s m args below meth c T locs cells slots) (hx : p.tables.exec = Jvm.exec) (hZ : Z.Warmed39 s.vm) {own : String} {i : Nat} (hown : s.vm.findClass own = some m.cls) (w1 : (Jvm.Cond.methodLink own i Lib.objectInit).before a0 Z = true) (w2 : (Jvm.Cond.instanceMethod Lib.objectInit).before a0 Z = true) (w3 : (Jvm.Cond.code Lib.objectInit ⟨#[0xb1]⟩ 1 none).before a0 Z = true) (eT : T.heap = h) (hml : ls.size = c.maxLocals) {a : Addr} (hd : decode c.code pc = .ok (.invokespecial i, 3)) (hp : pc + 3 = pc') (hf : 1 ≤ R.frames) {W : Nat} (hW : (st.map fun v => v.category).sum ≤ W) (hl : W + 12 ≤ R.locals)
    (k : ∀ T', Stand p l e R s m args below meth c T' locs cells slots → T'.heap = h → Goes p e below F T' (mkF m pc' ls st)) : Goes p e below F T (mkF m pc ls (.ref a :: st)) := by
  subst hp
  obtain ⟨T', X', e', st'⟩ := initO X hx hZ hown w1 w2 w3 eT (g := mkF m pc ls (.ref a :: st)) rfl hml rfl hd hf (W := W) (by show 2 * 0 + _ ≤ _; omega) hl
  exact Goes.fore st' (k T' X' e')
theorem gCallI (X : Stand p l e R s m args below meth c T locs cells slots) (hx : p.tables.exec = Jvm.exec) (hZ : Z.Warmed39 s.vm) {y : MethodName} {bytes : ByteArray} {maxL : Nat} {rm : Room} {own : String} {i : Nat} {Qc : Option Value → Heap → List Loc → Prop} {a : Addr} (hy1 : y.name = "<init>") (hown : s.vm.findClass own = some m.cls) (eT : T.heap = h) (hml : ls.size = c.maxLocals)
    (w1 : (Jvm.Cond.methodLink own i y).before a0 Z = true) (w2 : (Jvm.Cond.instanceMethod y).before a0 Z = true) (w3 : (Jvm.Cond.initialized y.cls).before a0 Z = true) (w4 : (Jvm.Cond.code y bytes maxL none).before a0 Z = true) (hy : y.cls ≠ "java/lang/invoke/MethodHandle" ∧ y.cls ≠ "java/lang/invoke/VarHandle")
    {argsL : List Value} {stk : List Value} (hC : Ctr l Z y bytes maxL none [] rm (.ref a :: argsL).toArray h Qc) (hlen : ∀ sig, parseMethodDescriptor y.desc = some sig → argsL.length = sig.parameters.length) (hd : decode c.code pc = .ok (.invokespecial i, 3)) (hp : pc + 3 = pc') (hst : stk = argsL.reverse ++ .ref a :: st)
    (hf : rm.frames + 1 ≤ R.frames) {W : Nat} (hW : (st.map fun v => v.category).sum ≤ W) (hlo : W + (maxL + 11) + rm.locals ≤ R.locals) (hce : cells + rm.cells ≤ R.cells) (hsl : slots + rm.slots ≤ R.slots)
    (k : ∀ T' v L, Stand p l e R s m args below meth c T' (locs ++ L) (cells + rm.cells) (slots + rm.slots) → Qc v T'.heap L → Goes p e below F T' (mkF m pc' ls (v.toList ++ st))) : Goes p e below F T (mkF m pc ls stk) := by
  subst hp hst
  obtain ⟨v, _, ⟨T', L', k', n'⟩, -, X', ⟨Lc, hQ, l1, y1, z1⟩, st'⟩ := X.specialBack hx (y := y) hy1 hown (mvT hZ w1) (mvT hZ w2) (mvT hZ w4) hy (backOf (W := W) hC hZ w4 w3 hf hlo) (g := mkF m pc ls (argsL.reverse ++ .ref a :: st)) rfl hml (Steps.refl _) (a := a) (argsL := argsL) (rest := st) hlen rfl (by show 2 * 0 + _ ≤ _; omega) hd (fun _ _ => ⟨rfl, eT, hce, hsl⟩)
  dsimp only [Pt.U, Pt.locs, Pt.cells, Pt.slots] at X' l1 y1 z1 st' hQ
  subst l1 y1 z1
  exact Goes.tr st' (k T' v Lc X' hQ)
end OwnLayer
theorem ow {Z : State} {a0 : Array Value} (hw : ∀ d ∈ tables_1, d.before a0 Z = true) (i : Nat) {d : Jvm.Cond} (h : tables_1[i]? = some d) : d.before a0 Z = true := hw _ (List.mem_of_getElem? h)
set_option maxRecDepth 65536
set_option maxHeartbeats 40000000
/-- a boolean as the machine holds it -/
def b2i (b : Bool) : Int32 := if b then 1 else 0
theorem b2_t {P : Prop} [Decidable P] (h : P) : b2i (decide P) = 1 := by simp [b2i, h]
theorem b2_f {P : Prop} [Decidable P] (h : ¬ P) : b2i (decide P) = 0 := by simp [b2i, h]
theorem b2_0 {b : Bool} : b2i b = 0 ↔ b = false := by cases b <;> simp [b2i]
theorem b2_n0 {b : Bool} : ¬ b2i b = 0 ↔ b = true := by cases b <;> simp [b2i]
theorem b2_inj {a b : Bool} : b2i a = b2i b ↔ a = b := by cases a <;> cases b <;> simp [b2i]
theorem b2_nar {b : Bool} : nar .boolean (b2i b) = b2i b := by cases b <;> rfl
theorem just_t {h0 h : Heap} {P : Prop} [Decidable P] (q : P) (e : h = h0) : Just h0 (.int (b2i (decide P))) (some (.int 1)) h [] := ⟨by rw [b2_t q], e, rfl⟩
theorem just_f {h0 h : Heap} {P : Prop} [Decidable P] (q : ¬ P) (e : h = h0) : Just h0 (.int (b2i (decide P))) (some (.int 0)) h [] := ⟨by rw [b2_f q], e, rfl⟩
/-- the law returns 1; what it wrote is new -/
def Law1 (h0 : Heap) (v : Option Value) (h : Heap) (L : List Loc) : Prop := v = some (.int 1) ∧ Fr h0.size L
section OwnArrays
variable {p : Program} {l : Launch} {e : Env} {R : Room} {s : State} {m : MethodId} {args : Array Value} {below : List Frame} {meth : Method} {c : Code} {T : State} {locs : List Loc} {cells slots : Nat}
variable {F : State → Outcome → Prop} {pc pc' : Nat} {ls : Array Slot} {st : List Value} {Z : State} {a0 : Array Value} {h : Heap} {a : Addr} {ck : ClassId} {n j : Int32} {vs : List Value} {dv : Value}
theorem gIaload (X : Stand p l e R s m args below meth c T locs cells slots) (hx : p.tables.exec = Jvm.exec) (hZ : Z.Warmed39 s.vm) (eT : T.heap = h) {v : Value} (A : Arv Z h a ck .int n vs dv) (h0 : ¬ j < 0) (h1 : j < n) (hv : vs.getD j.toNatClampNeg dv = v) (hd : decode c.code pc = .ok (.iaload, 1)) (hp : pc + 1 = pc') (k : Goes p e below F T (mkF m pc' ls (v :: st))) : Goes p e below F T (mkF m pc ls (.int j :: .ref a :: st)) := by
  subst hp
  obtain ⟨cl, Ar, q, S, N, H, _⟩ := A
  have hin := inb_of S ⟨h0, h1⟩
  exact Goes.fore (fun t q => X.iaload hx (j := j) (v := v) (by rw [eT]; exact Ar.1) (State.isArrayOf_alike hZ.alike Ar.2.1) Ar.2.2 hin (Has.at H hin hv) (g := mkF m pc ls (.int j :: .ref a :: st)) rfl rfl hd t q) k
theorem gCaload (X : Stand p l e R s m args below meth c T locs cells slots) (hx : p.tables.exec = Jvm.exec) (hZ : Z.Warmed39 s.vm) (eT : T.heap = h) {v : Value} (A : Arv Z h a ck .char n vs dv) (h0 : ¬ j < 0) (h1 : j < n) (hv : vs.getD j.toNatClampNeg dv = v) (hd : decode c.code pc = .ok (.caload, 1)) (hp : pc + 1 = pc') (k : Goes p e below F T (mkF m pc' ls (v :: st))) : Goes p e below F T (mkF m pc ls (.int j :: .ref a :: st)) := by
  subst hp
  obtain ⟨cl, Ar, q, S, N, H, _⟩ := A
  have hin := inb_of S ⟨h0, h1⟩
  exact Goes.fore (fun t q => X.caload hx (j := j) (v := v) (by rw [eT]; exact Ar.1) (State.isArrayOf_alike hZ.alike Ar.2.1) Ar.2.2 hin (Has.at H hin hv) (g := mkF m pc ls (.int j :: .ref a :: st)) rfl rfl hd t q) k
theorem gLaload (X : Stand p l e R s m args below meth c T locs cells slots) (hx : p.tables.exec = Jvm.exec) (hZ : Z.Warmed39 s.vm) (eT : T.heap = h) {v : Value} (A : Arv Z h a ck .long n vs dv) (h0 : ¬ j < 0) (h1 : j < n) (hv : vs.getD j.toNatClampNeg dv = v) (hd : decode c.code pc = .ok (.laload, 1)) (hp : pc + 1 = pc') (k : Goes p e below F T (mkF m pc' ls (v :: st))) : Goes p e below F T (mkF m pc ls (.int j :: .ref a :: st)) := by
  subst hp
  obtain ⟨cl, Ar, q, S, N, H, _⟩ := A
  have hin := inb_of S ⟨h0, h1⟩
  exact Goes.fore (fun t q => X.laload hx (j := j) (v := v) (by rw [eT]; exact Ar.1) (State.isArrayOf_alike hZ.alike Ar.2.1) Ar.2.2 hin (Has.at H hin hv) (g := mkF m pc ls (.int j :: .ref a :: st)) rfl rfl hd t q) k
theorem gBaload (X : Stand p l e R s m args below meth c T locs cells slots) (hx : p.tables.exec = Jvm.exec) (hZ : Z.Warmed39 s.vm) (eT : T.heap = h) {v : Value} (A : Arv Z h a ck .byte n vs dv) (h0 : ¬ j < 0) (h1 : j < n) (hv : vs.getD j.toNatClampNeg dv = v) (hd : decode c.code pc = .ok (.baload, 1)) (hp : pc + 1 = pc') (k : Goes p e below F T (mkF m pc' ls (v :: st))) : Goes p e below F T (mkF m pc ls (.int j :: .ref a :: st)) := by
  subst hp
  obtain ⟨cl, Ar, q, S, N, H, _⟩ := A
  have hin := inb_of S ⟨h0, h1⟩
  exact Goes.fore (fun t q => X.baloadBytes hx (j := j) (v := v) (by rw [eT]; exact Ar.1) (State.isArrayOf_alike hZ.alike Ar.2.1) Ar.2.2 hin (Has.at H hin hv) (g := mkF m pc ls (.int j :: .ref a :: st)) rfl rfl hd t q) k
theorem gAaload (X : Stand p l e R s m args below meth c T locs cells slots) (hx : p.tables.exec = Jvm.exec) (hZ : Z.Warmed39 s.vm) (eT : T.heap = h) {v : Value} {ty : FieldType} (hty : ty.isReference = true) (A : Arv Z h a ck ty n vs dv) (h0 : ¬ j < 0) (h1 : j < n) (hv : vs.getD j.toNatClampNeg dv = v) (hd : decode c.code pc = .ok (.aaload, 1)) (hp : pc + 1 = pc') (k : Goes p e below F T (mkF m pc' ls (v :: st))) : Goes p e below F T (mkF m pc ls (.int j :: .ref a :: st)) := by
  subst hp
  obtain ⟨cl, Ar, q, S, N, H, _⟩ := A
  have hin := inb_of S ⟨h0, h1⟩
  exact Goes.fore (fun t q => X.aaload hx (j := j) (v := v) (by rw [eT]; exact Ar.1) (State.isArrayOf_alike hZ.alike Ar.2.1) hty Ar.2.2 hin (Has.at H hin hv) (g := mkF m pc ls (.int j :: .ref a :: st)) rfl rfl hd t q) k
theorem gArrLen (X : Stand p l e R s m args below meth c T locs cells slots) (hx : p.tables.exec = Jvm.exec) (hZ : Z.Warmed39 s.vm) (eT : T.heap = h) {ty : FieldType} (A : Arv Z h a ck ty n vs dv) (hd : decode c.code pc = .ok (.arraylength, 1)) (hp : pc + 1 = pc') (k : Goes p e below F T (mkF m pc' ls (.int n :: st))) : Goes p e below F T (mkF m pc ls (.ref a :: st)) := by
  subst hp
  obtain ⟨cl, Ar, q, S, N, H, _⟩ := A
  refine Goes.fore (fun t q => X.arraylength hx (by rw [eT]; exact Ar.1) (State.isArrayOf_alike hZ.alike Ar.2.1) (g := mkF m pc ls (.ref a :: st)) rfl rfl hd t q) ?_
  rw [len_of S N]; exact k
theorem gIastore (X : Stand p l e R s m args below meth c T locs cells slots) (hx : p.tables.exec = Jvm.exec) (hZ : Z.Warmed39 s.vm) (eT : T.heap = h) {x : Int32} (A : Arv Z h a ck .int n vs dv) (h0 : ¬ j < 0) (h1 : j < n) (i : Nat) (hj : j.toNatClampNeg = i) (hi : i < vs.length) (hd : decode c.code pc = .ok (.iastore, 1)) (hp : pc + 1 = pc')
    (k : ∀ T' h', Stand p l e R s m args below meth c T' (locs ++ [⟨a, j.toNatClampNeg⟩]) cells slots → T'.heap = h' → Wr h h' a j.toNatClampNeg (.int x) → Arv Z h' a ck .int n (vs.set i (.int x)) dv → Goes p e below F T' (mkF m pc' ls st)) : Goes p e below F T (mkF m pc ls (.int x :: .int j :: .ref a :: st)) := by
  subst hp
  obtain ⟨cl, Ar, q, S, N, H, Gt⟩ := A
  obtain ⟨T', h', X', e', W, st'⟩ := stI X hx hZ eT Ar (j := j) (inb_of S ⟨h0, h1⟩) (g := mkF m pc ls (.int x :: .int j :: .ref a :: st)) rfl rfl hd
  exact Goes.fore st' (k T' h' X' e' W (Arv.set Ar q S N H Gt rfl W i hj hi))
theorem gCastore (X : Stand p l e R s m args below meth c T locs cells slots) (hx : p.tables.exec = Jvm.exec) (hZ : Z.Warmed39 s.vm) (eT : T.heap = h) {x : Int32} (A : Arv Z h a ck .char n vs dv) (h0 : ¬ j < 0) (h1 : j < n) (i : Nat) (hj : j.toNatClampNeg = i) (hi : i < vs.length) (hd : decode c.code pc = .ok (.castore, 1)) (hp : pc + 1 = pc')
    (k : ∀ T' h', Stand p l e R s m args below meth c T' (locs ++ [⟨a, j.toNatClampNeg⟩]) cells slots → T'.heap = h' → Wr h h' a j.toNatClampNeg (.int (nar .char x)) → Arv Z h' a ck .char n (vs.set i (.int (nar .char x))) dv → Goes p e below F T' (mkF m pc' ls st)) : Goes p e below F T (mkF m pc ls (.int x :: .int j :: .ref a :: st)) := by
  subst hp
  obtain ⟨cl, Ar, q, S, N, H, Gt⟩ := A
  obtain ⟨T', h', X', e', W, st'⟩ := stC X hx hZ eT Ar (j := j) (inb_of S ⟨h0, h1⟩) (g := mkF m pc ls (.int x :: .int j :: .ref a :: st)) rfl rfl hd
  exact Goes.fore st' (k T' h' X' e' W (Arv.set Ar q S N H Gt (fits_nar_char _) W i hj hi))
theorem gBastore (X : Stand p l e R s m args below meth c T locs cells slots) (hx : p.tables.exec = Jvm.exec) (hZ : Z.Warmed39 s.vm) (eT : T.heap = h) {x : Int32} (A : Arv Z h a ck .byte n vs dv) (h0 : ¬ j < 0) (h1 : j < n) (i : Nat) (hj : j.toNatClampNeg = i) (hi : i < vs.length) (hd : decode c.code pc = .ok (.bastore, 1)) (hp : pc + 1 = pc')
    (k : ∀ T' h', Stand p l e R s m args below meth c T' (locs ++ [⟨a, j.toNatClampNeg⟩]) cells slots → T'.heap = h' → Wr h h' a j.toNatClampNeg (.int (nar .byte x)) → Arv Z h' a ck .byte n (vs.set i (.int (nar .byte x))) dv → Goes p e below F T' (mkF m pc' ls st)) : Goes p e below F T (mkF m pc ls (.int x :: .int j :: .ref a :: st)) := by
  subst hp
  obtain ⟨cl, Ar, q, S, N, H, Gt⟩ := A
  obtain ⟨T', h', X', e', W, st'⟩ := stB X hx hZ eT Ar (j := j) (inb_of S ⟨h0, h1⟩) (g := mkF m pc ls (.int x :: .int j :: .ref a :: st)) rfl rfl hd
  exact Goes.fore st' (k T' h' X' e' W (Arv.set Ar q S N H Gt (fits_nar_byte _) W i hj hi))
theorem gLastore (X : Stand p l e R s m args below meth c T locs cells slots) (hx : p.tables.exec = Jvm.exec) (hZ : Z.Warmed39 s.vm) (eT : T.heap = h) {x : Int64} (A : Arv Z h a ck .long n vs dv) (h0 : ¬ j < 0) (h1 : j < n) (i : Nat) (hj : j.toNatClampNeg = i) (hi : i < vs.length) (hd : decode c.code pc = .ok (.lastore, 1)) (hp : pc + 1 = pc')
    (k : ∀ T' h', Stand p l e R s m args below meth c T' (locs ++ [⟨a, j.toNatClampNeg⟩]) cells slots → T'.heap = h' → Wr h h' a j.toNatClampNeg (.long x) → Arv Z h' a ck .long n (vs.set i (.long x)) dv → Goes p e below F T' (mkF m pc' ls st)) : Goes p e below F T (mkF m pc ls (.long x :: .int j :: .ref a :: st)) := by
  subst hp
  obtain ⟨cl, Ar, q, S, N, H, Gt⟩ := A
  obtain ⟨T', h', X', e', W, st'⟩ := stJ X hx hZ eT Ar (j := j) (inb_of S ⟨h0, h1⟩) (g := mkF m pc ls (.long x :: .int j :: .ref a :: st)) rfl rfl hd
  exact Goes.fore st' (k T' h' X' e' W (Arv.set Ar q S N H Gt rfl W i hj hi))
theorem gNewP (X : Stand p l e R s m args below meth c T locs cells slots) (hx : p.tables.exec = Jvm.exec) (hZ : Z.Warmed39 s.vm) {aty : ArrayType} (w : (Jvm.Cond.arrayClass (newarray.typeOf aty)).before a0 Z = true) (eT : T.heap = h) (hd : decode c.code pc = .ok (.newarray aty, 2)) (hn : ¬ n < 0) {cap : Nat} (hcap : n.toNatClampNeg ≤ cap) (hb : cap * 8 ≤ 536870912) (hc : cells + 1 ≤ R.cells) (hl : slots + cap ≤ R.slots) (N : Nat) (hp : pc + 2 = pc')
    (k : ∀ T' h' b cA, Stand p l e R s m args below meth c T' locs (cells + 1) (slots + cap) → T'.heap = h' → b = h.size → Ext h h' → Arv Z h' b cA (newarray.typeOf aty) n (List.replicate N (defaultValue (newarray.typeOf aty))) (defaultValue (newarray.typeOf aty)) → Goes p e below F T' (mkF m pc' ls (.ref b :: st))) : Goes p e below F T (mkF m pc ls (.int n :: st)) := by
  subst hp
  obtain ⟨T', h', cA, X', e', E, A, st'⟩ := newP X hx hZ w eT (g := mkF m pc ls (.int n :: st)) rfl hd rfl hn hcap hb hc hl
  exact Goes.fore st' (k T' h' _ cA X' e' rfl E ((Arv.new A hn).pad (pad_rep [] _ N)))
theorem gCast (X : Stand p l e R s m args below meth c T locs cells slots) (hx : p.tables.exec = Jvm.exec) (hZ : Z.Warmed39 s.vm) {own K : String} {i : Nat} (hown : s.vm.findClass own = some m.cls) (w : (Jvm.Cond.classLink own i K).before a0 Z = true) (eT : T.heap = h) (I : Ins Z h a K true) (hd : decode c.code pc = .ok (.checkcast i, 3)) (hp : pc + 3 = pc')
    (k : ∀ T', Stand p l e R s m args below meth c T' locs cells slots → T'.heap = h → Goes p e below F T' (mkF m pc' ls (.ref a :: st))) : Goes p e below F T (mkF m pc ls (.ref a :: st)) := by
  subst hp
  obtain ⟨T', X', e', st'⟩ := castY X hx hZ hown w eT I (g := mkF m pc ls (.ref a :: st)) rfl rfl hd
  exact Goes.fore st' (k T' X' e')
theorem gClone (X : Stand p l e R s m args below meth c T locs cells slots) (hx : p.tables.exec = Jvm.exec) (hZ : Z.Warmed39 s.vm) {own ad : String} {i : Nat} (hown : s.vm.findClass own = some m.cls) (w1 : (Jvm.Cond.methodLink own i ⟨ad, "clone", "()Ljava/lang/Object;"⟩).before a0 Z = true) (w2 : (Jvm.Cond.sameMethod ad "java/lang/Object" "clone" "()Ljava/lang/Object;").before a0 Z = true) (w3 : (Jvm.Cond.native ⟨"java/lang/Object", "clone", "()Ljava/lang/Object;"⟩).before a0 Z = true)
    (w4 : (Jvm.Cond.instanceMethod ⟨"java/lang/Object", "clone", "()Ljava/lang/Object;"⟩).before a0 Z = true) (w5 : (Jvm.Cond.selects ad ⟨ad, "clone", "()Ljava/lang/Object;"⟩ ⟨"java/lang/Object", "clone", "()Ljava/lang/Object;"⟩).before a0 Z = true) (w6 : (Jvm.Cond.castable ad "java/lang/Cloneable").before a0 Z = true) {ty : FieldType}
    (eT : T.heap = h) (A : Arv Z h a ck ty n vs dv) (E : Exa Z h a ad) (hml : ls.size = c.maxLocals) (hd : decode c.code pc = .ok (.invokevirtual i, 3)) (hf : 1 ≤ R.frames) {W cap : Nat} (hW : (st.map fun v => v.category).sum ≤ W) (hlo : W + 14 ≤ R.locals) (hcap : n.toNatClampNeg ≤ cap) (hc : cells + 1 ≤ R.cells) (hsl : slots + cap ≤ R.slots) (hp : pc + 3 = pc')
    (k : ∀ T' h' b, Stand p l e R s m args below meth c T' locs (cells + 1) (slots + cap) → T'.heap = h' → b = h.size → Ext h h' → Arv Z h' b ck ty n vs dv → Exa Z h' b ad → Goes p e below F T' (mkF m pc' ls (.ref b :: st))) : Goes p e below F T (mkF m pc ls (.ref a :: st)) := by
  subst hp
  obtain ⟨T', h', X', e', E', A', Ex, st'⟩ := cloneH X hx hZ hown w1 w2 w3 w4 w5 w6 eT A.arh E (g := mkF m pc ls (.ref a :: st)) rfl hml rfl hd hf (W := W) (cap := cap) (by show 2 * 0 + _ ≤ _; omega) hlo hcap hc hsl
  exact Goes.fore st' (k T' h' _ X' e' rfl E' A' Ex)
theorem gArrCopy (X : Stand p l e R s m args below meth c T locs cells slots) (hx : p.tables.exec = Jvm.exec) (hZ : Z.Warmed39 s.vm) {own : String} {i : Nat} (hown : s.vm.findClass own = some m.cls) (w1 : (Jvm.Cond.methodLink own i Jvm.Stand.acN).before a0 Z = true) (w2 : (Jvm.Cond.native Jvm.Stand.acN).before a0 Z = true) (w3 : (Jvm.Cond.static Jvm.Stand.acN).before a0 Z = true) (w4 : (Jvm.Cond.initialized "java/lang/System").before a0 Z = true) (eT : T.heap = h)
    {b : Addr} {cb : ClassId} {ty : FieldType} {n' sp dp nn : Int32} {vd : List Value} {dd : Value} (A : Arv Z h a ck ty n vs dv) (B : Arv Z h b cb ty n' vd dd) (hty : refKind ty = false) (h1 : ¬ sp < 0) (h2 : ¬ dp < 0) (h3 : ¬ nn < 0) (h4 : sp.toNatClampNeg + nn.toNatClampNeg ≤ n.toNatClampNeg) (h5 : dp.toNatClampNeg + nn.toNatClampNeg ≤ n'.toNatClampNeg) (hl : dp.toNatClampNeg + nn.toNatClampNeg ≤ vd.length) {n0 : Nat} (N : Fr n0 locs) (ge : n0 ≤ b)
    (hml : ls.size = c.maxLocals) (hd : decode c.code pc = .ok (.invokestatic i, 3)) (hp : pc + 3 = pc') (hf : 1 ≤ R.frames) {W : Nat} (hW : (st.map fun v => v.category).sum ≤ W) (hlo : W + (nativeFrameWords "java/lang/System" "arraycopy" 5 + 11) ≤ R.locals)
    (k : ∀ T' h' L, Stand p l e R s m args below meth c T' L cells slots → T'.heap = h' → Fr n0 L → Keep h h' [b] → Arv Z h' b cb ty n' (vd.take dp.toNatClampNeg ++ ((List.range nn.toNatClampNeg).map fun i => vs.getD (sp.toNatClampNeg + i) dv) ++ vd.drop (dp.toNatClampNeg + nn.toNatClampNeg)) dd → Goes p e below F T' (mkF m pc' ls st)) : Goes p e below F T (mkF m pc ls (.int nn :: .int dp :: .ref b :: .int sp :: .ref a :: st)) := by
  subst hp
  obtain ⟨T', h', L, X', e', N', K, A', st'⟩ := cpA X hx hZ hown w1 w2 w3 w4 eT A B (Or.inl ⟨rfl, hty⟩) h1 h2 h3 h4 h5 rfl hl N ge (g := mkF m pc ls (.int nn :: .int dp :: .ref b :: .int sp :: .ref a :: st)) rfl hml rfl hd hf (W := W) (by show 2 * 0 + _ ≤ _; omega) hlo
  exact Goes.fore st' (k T' h' L X' e' N' K A')
theorem gCallP (X : Stand p l e R s m args below meth c T locs cells slots) (hx : p.tables.exec = Jvm.exec) (hZ : Z.Warmed39 s.vm) {y : MethodName} {bytes : ByteArray} {maxL : Nat} {ret : Option FieldType} {rm : Room} {own : String} {i kk : Nat} {Qc : Option Value → Heap → List Loc → Prop} (hown : s.vm.findClass own = some m.cls) (eT : T.heap = h) (hml : ls.size = c.maxLocals) (E : Exa Z h a y.cls)
    (w1 : (Jvm.Cond.methodLink own i y).before a0 Z = true) (w6 : (Jvm.Cond.instanceMethod y).before a0 Z = true) (w5 : (Jvm.Cond.privateMethod y).before a0 Z = true) (wi : (Jvm.Cond.instantiable y.cls kk).before a0 Z = true) (w3 : (Jvm.Cond.initialized y.cls).before a0 Z = true) (w4 : (Jvm.Cond.code y bytes maxL ret).before a0 Z = true) (hy : y.cls ≠ "java/lang/invoke/MethodHandle" ∧ y.cls ≠ "java/lang/invoke/VarHandle")
    {argsL : List Value} {stk : List Value} (hC : Ctr l Z y bytes maxL ret [] rm (.ref a :: argsL).toArray h Qc) (hlen : ∀ sig, parseMethodDescriptor y.desc = some sig → argsL.length = sig.parameters.length) (hd : decode c.code pc = .ok (.invokevirtual i, 3)) (hp : pc + 3 = pc') (hst : stk = argsL.reverse ++ .ref a :: st)
    (hf : rm.frames + 1 ≤ R.frames) {W : Nat} (hW : (st.map fun v => v.category).sum ≤ W) (hlo : W + (maxL + 11) + rm.locals ≤ R.locals) (hce : cells + rm.cells ≤ R.cells) (hsl : slots + rm.slots ≤ R.slots)
    (k : ∀ T' v L, Stand p l e R s m args below meth c T' (locs ++ L) (cells + rm.cells) (slots + rm.slots) → Qc v T'.heap L → Goes p e below F T' (mkF m pc' ls (v.toList ++ st))) : Goes p e below F T (mkF m pc ls stk) := by
  subst hp hst
  obtain ⟨cq, q1, q2⟩ := E.cell
  have hpr : s.PrivateAt y := Cond.privateMethod_at (mvP hZ w5 (args := #[]))
  obtain ⟨cc, kc, hc1, hk1, -, hni, -, -⟩ := Cond.instantiable_spec (mvT (args := args) hZ wi)
  have hsel : (Jvm.Cond.selects y.cls y y).before args s = true := Jvm.Stand.selects_self_of_private hc1 hk1 (Bool.or_eq_false_iff.mp hni).1 hpr (mvT hZ w6) hy
  obtain ⟨v, _, ⟨T', L', k', n'⟩, -, X', ⟨Lc, hQ, l1, y1, z1⟩, st'⟩ := X.privateBack hx (y := y) hown (mvT hZ w1) (mvT hZ w6) hsel hpr (mvT hZ w4) hy (backOf (W := W) hC hZ w4 w3 hf hlo) (g := mkF m pc ls (argsL.reverse ++ .ref a :: st)) rfl hml (Steps.refl _) (a := a) (by rw [eT]; exact q1) q2 (argsL := argsL) (rest := st) hlen rfl (by show 2 * 0 + _ ≤ _; omega) hd (fun _ _ => ⟨rfl, eT, hce, hsl⟩)
  dsimp only [Pt.U, Pt.locs, Pt.cells, Pt.slots] at X' l1 y1 z1 st' hQ
  subst l1 y1 z1
  exact Goes.tr st' (k T' v Lc X' hQ)
theorem gInstY (X : Stand p l e R s m args below meth c T locs cells slots) (hx : p.tables.exec = Jvm.exec) (hZ : Z.Warmed39 s.vm) {own K : String} {i : Nat} (hown : s.vm.findClass own = some m.cls) (w : (Jvm.Cond.classLink own i K).before a0 Z = true) (eT : T.heap = h) (I : Ins Z h a K true) (hd : decode c.code pc = .ok (.instanceof i, 3)) (hp : pc + 3 = pc')
    (k : ∀ T', Stand p l e R s m args below meth c T' locs cells slots → T'.heap = h → Goes p e below F T' (mkF m pc' ls (.int 1 :: st))) : Goes p e below F T (mkF m pc ls (.ref a :: st)) := by
  subst hp
  obtain ⟨T', X', e', st'⟩ := instY X hx hZ hown w eT I (g := mkF m pc ls (.ref a :: st)) rfl rfl hd
  exact Goes.fore st' (k T' X' e')
end OwnArrays
section OwnWide
variable {p : Program} {l : Launch} {e : Env} {R : Room} {s : State} {m : MethodId} {args : Array Value} {below : List Frame} {meth : Method} {c : Code} {T : State} {locs : List Loc} {cells slots : Nat}
variable {F : State → Outcome → Prop} {kc ks : Nat} {Q : Option Value → Heap → List Loc → Prop} {pc pc' : Nat} {ls : Array Slot} {st : List Value} {Z : State} {a0 : Array Value} {h : Heap} {EL : List (String × Nat)} {vm0 : Vm} {k0 : Nat}
/-- it returns, Q holds, the frame is the wide one, and what is booked of the constants EL says its text still -/
def FinH (Z : State) (EL : List (String × Nat)) (s : State) (kc ks : Nat) (Q : Option Value → Heap → List Loc → Prop) (s₂ : State) (o : Outcome) : Prop := ∃ v L, o = .returned v ∧ Q v s₂.heap L ∧ CHr Z EL s.vm s.heap s₂.vm s₂.heap ∧ ReturnedEndW s o s₂ L kc ks
def CtrH (l : Launch) (Z : State) (EL : List (String × Nat)) (SL : List Addr) (y : MethodName) (bytes : ByteArray) (maxL : Nat) (ret : Option FieldType) (ws : List Jvm.Cond) (rm : Room) (as' : Array Value) (h0 : Heap) (Q : Option Value → Heap → List Loc → Prop) : Prop :=
  MetFree l y (head1 (Jvm.Cond.code y bytes maxL ret :: ws) rm) (fun a U => a = as' ∧ Z.Warmed39 U.vm ∧ U.heap = h0 ∧ CHv Z EL U.vm h0 ∧ ∀ x ∈ SL, Safe Z EL U.vm h0 x) (fun _ _ _ _ _ => True) (fun _ U o U' => ∃ v L, o = .returned v ∧ Q v U'.heap L ∧ CHr Z EL U.vm U.heap U'.vm U'.heap ∧ ReturnedEndW U o U' L rm.cells rm.slots)
theorem CtrH.of {SL : List Addr} {y : MethodName} {bytes : ByteArray} {maxL : Nat} {ret : Option FieldType} {ws : List Jvm.Cond} {rm : Room} {as' : Array Value} {h0 : Heap} (hp : plainFor y = true)
    (body : ∀ (p : Program) (e : Env) (s : State) (m : MethodId) (below : List Frame) (meth : Method) (c : Code) (s₁ : State), p.tables.exec = Jvm.exec → (∀ {pc : Nat} {r : Except ClassFile.DecodeError (ClassFile.Instr × Nat)}, ClassFile.decode bytes pc = r → ClassFile.decode c.code pc = r) → c.maxLocals = maxL → meth.sig.returnType = ret → (s.setVm s.vm).vm.findClass y.cls = some m.cls → meth.name = y.name → Z.Warmed39 (s.setVm s.vm).vm → meth.locks = false → Stand p l e rm (s.setVm s.vm) m as' below meth c s₁ [] 0 0 → s₁.heap = h0 → s.Since s.vm 0 → CHr Z EL s.vm s.heap s.vm h0 → (∀ x ∈ SL, Safe Z EL s.vm h0 x) → Goes p e below (FinH Z EL s rm.cells rm.slots Q) s₁ (entryFrame m as' maxL)) :
    CtrH l Z EL SL y bytes maxL ret ws rm as' h0 Q := by
  refine MetFree.of_bodySF hp hisR ?_
  intro p e s m args below meth c s₁ Bd hml hP hK
  obtain ⟨rfl, hZ, hh, hv, hs⟩ := hP
  have X : Stand p l e rm s m args below meth c s₁ [] 0 0 := Stand.of_body Bd
  refine body p e s m below meth c s₁ Bd.exec (fun h2 => hb Bd.bytes h2) hml Bd.returns (findClass_of_methodNamed Bd.named) (name_of_methodNamed Bd.named Bd.method).1 hZ Bd.notSynchronized X (by rw [← hh, Bd.state]; rfl) ((State.WarmedH.refl s).since 0) ?_ hs
  rw [hh]; exact CHr.refl hv
/-- the payer of such a contract; what is asked of the addresses SL goes on to the tables at hand -/
theorem backOfSG {SL : List Addr} {y : MethodName} {bytes : ByteArray} {maxL : Nat} {ret : Option FieldType} {rm : Room} {len W : Nat} {as' : Array Value}
    (hM : CtrH l Z EL SL y bytes maxL ret [] rm as' h Q) (hZ : Z.Warmed39 vm0) (wc : (Jvm.Cond.code y bytes maxL ret).before a0 Z = true) (wz : (Jvm.Cond.initialized y.cls).before a0 Z = true) (hf : rm.frames + 1 ≤ R.frames) (hl : W + (maxL + 11) + rm.locals ≤ R.locals) (hEL : EW Z a0 EL) (H : CHv Z EL vm0 h) (hsl : ∀ x ∈ SL, x < h.size ∧ Safe Z EL vm0 h x) :
    BackS l R p e below (s.setVm vm0) args y len W (fun A a => a = as' ∧ A.U.heap = h ∧ A.cells + rm.cells ≤ R.cells ∧ A.slots + rm.slots ≤ R.slots)
      (fun A _ v B => ∃ L, Q v B.U.heap L ∧ B.locs = A.locs ++ L ∧ B.cells = A.cells + rm.cells ∧ B.slots = A.slots + rm.slots ∧ CHr Z EL vm0 h B.U.vm B.U.heap) :=
  BackS.of_freeW (bytes := bytes) (maxL := maxL) (ret := ret) (E := fun _ first o t L k n => k = rm.cells ∧ n = rm.slots ∧ (∃ v, o = .returned v ∧ Q v t.heap L) ∧ CHr Z EL first.vm first.heap t.vm t.heap) hM hf hl
    (fun m meth c A a Y hp => have hU : Z.Warmed39 A.U.vm := wtrans (s := s.setVm vm0) hZ Y.warmed
      ⟨by show (Jvm.Cond.and _ .tt).before a A.U = true; rw [Cond.before_and, mv hU wc]; rfl, mv hU wc, mv hU wz, hp.2.2.1, hp.2.2.2⟩)
    (fun m meth c A a g mk Y hp => have q := CHv.at Y hZ hEL H
      ⟨hp.1, wtrans (s := s.setVm vm0) hZ Y.warmed, hp.2.1, q.1, fun x hx => q.safe (hsl x hx).1 (hsl x hx).2⟩) (fun _ _ _ _ _ _ _ _ _ => trivial)
    (fun _ _ _ _ ⟨v, L, h1, h2, h3, h4⟩ => ⟨L, _, _, h4, rfl, rfl, ⟨v, h1, h2⟩, h3⟩)
    (fun m meth c A a g mk v t L k n Y hp _ _ ⟨e1, e2, ⟨v', e3, e4⟩, e5⟩ => by
      cases e3; subst e1 e2
      refine ⟨L, e4, rfl, rfl, rfl, (CHv.at Y hZ hEL H).trans ?_⟩
      rw [← hp.2.1]; exact e5)
theorem gLdcO (X : Stand p l e R (s.setVm vm0) m args below meth c T locs cells slots) (hx : p.tables.exec = Jvm.exec) (hZ : Z.Warmed39 (s.setVm vm0).vm) {own text : String} {i : Nat} (hown : (s.setVm vm0).vm.findClass own = some m.cls) (w : (Jvm.Cond.stringLink own i text).before a0 Z = true) (wS : ∀ a ∈ Bundle.stringAtoms, a.before a0 Z = true) (eT : T.heap = h) (hS : s.Since vm0 k0) (hk : k0 ≤ h.size) (hEL : EW Z a0 EL) (H : CHr Z EL s.vm s.heap vm0 h)
    (hd : decode c.code pc = .ok (.ldc i, 2)) (hp : pc + 2 = pc') {n : Nat} (hn : 4 * text.toList.length ≤ n) (hbig : n ≤ 536870912) (hc : cells + 2 ≤ R.cells) (hl : slots + (n + 4) ≤ R.slots)
    (k : ∀ a T' h' k1, Stand p l e R (s.setVm T'.vm) m args below meth c T' locs (cells + 2) (slots + (n + 4)) → T'.heap = h' → Ext h h' → s.Since T'.vm k1 → k1 ≤ h'.size → Z.Warmed39 (s.setVm T'.vm).vm → (s.setVm T'.vm).vm.findClass own = some m.cls → CHr Z EL vm0 h T'.vm h' → CHr Z EL s.vm s.heap T'.vm h' → Goes p e below F T' (mkF m pc' ls (.ref a :: st))) : Goes p e below F T (mkF m pc ls st) := by
  subst hp
  obtain ⟨a, T', h', k1, X', e', E, hS', hk', hZ', ho', hC, -, st'⟩ := ldcOH X hx hZ hown w wS eT hS hk hEL H.1 (g := mkF m pc ls st) rfl hd hn hbig hc hl
  exact Goes.fore st' (k a T' h' k1 X' e' E hS' hk' hZ' ho' hC (H.trans hC))
theorem gLdcC (X : Stand p l e R (s.setVm vm0) m args below meth c T locs cells slots) (hx : p.tables.exec = Jvm.exec) (hZ : Z.Warmed39 (s.setVm vm0).vm) {own text : String} {i : Nat} (hown : (s.setVm vm0).vm.findClass own = some m.cls) (w : (Jvm.Cond.stringLink own i text).before a0 Z = true) (wS : ∀ a ∈ Bundle.stringAtoms, a.before a0 Z = true) (eT : T.heap = h) (hS : s.Since vm0 k0) (hk : k0 ≤ h.size) (hEL : EW Z a0 EL) (hmem : (own, i) ∈ EL) (H : CHr Z EL s.vm s.heap vm0 h)
    {vs : List Value} {z : Int32} (ht : (∀ c ∈ text.toList, c.toNat < 256) ∧ text.toList.map (fun c => Value.int (Jvm.Lit.byteI c.toNat.toUInt16)) = vs) (hz : ¬ z < 0) (hlz : z.toNatClampNeg = vs.length)
    (hd : decode c.code pc = .ok (.ldc i, 2)) (hp : pc + 2 = pc') {n : Nat} (hn : 4 * text.toList.length ≤ n) (hbig : n ≤ 536870912) (hc : cells + 2 ≤ R.cells) (hl : slots + (n + 4) ≤ R.slots)
    (k : ∀ a T' h' k1 b ck, Stand p l e R (s.setVm T'.vm) m args below meth c T' locs (cells + 2) (slots + (n + 4)) → T'.heap = h' → Ext h h' → s.Since T'.vm k1 → k1 ≤ h'.size → Z.Warmed39 (s.setVm T'.vm).vm → (s.setVm T'.vm).vm.findClass own = some m.cls → CHr Z EL vm0 h T'.vm h' → CHr Z EL s.vm s.heap T'.vm h' →
      Exa Z h' a "java/lang/String" → Fld Z h' a "java/lang/String" "coder" "B" (.int 0) → Fld Z h' a "java/lang/String" "value" "[B" (.ref b) → Arv Z h' b ck .byte z vs (.int 0) → (∀ x, Safe Z EL T'.vm h' x → x ≠ a ∧ x ≠ b) → Goes p e below F T' (mkF m pc' ls (.ref a :: st))) : Goes p e below F T (mkF m pc ls st) := by
  subst hp
  obtain ⟨a, T', h', k1, b, ck, X', e', E, hS', hk', hZ', ho', Ex, Fc, Fv, A, -, -, hC, -, hsafe, st'⟩ := ldcCH X hx hZ hown w wS eT hS hk hEL hmem H.1 ht hz hlz (g := mkF m pc ls st) rfl hd hn hbig hc hl
  exact Goes.fore st' (k a T' h' k1 b ck X' e' E hS' hk' hZ' ho' hC (H.trans hC) Ex Fc Fv A hsafe)
theorem gRetH0 {v : Option Value} (X : Stand p l e R (s.setVm vm0) m args below meth c T locs cells slots) (hx : p.tables.exec = Jvm.exec) (hlk : meth.locks = false) (hv : meth.sig.returnType = none → v = none) (eT : T.heap = h) (hS : s.Since vm0 k0) (hk : k0 ≤ h.size) (hZ : Z.Warmed39 (s.setVm vm0).vm) (hEL : EW Z a0 EL) (H : CHr Z EL s.vm s.heap vm0 h) (hkc : cells ≤ kc) (hks : slots ≤ ks) (hq : Q v T.heap locs) {g : JFrame}
    (k : ∀ fs, (∀ (f : JFrame) (acts : List Action), f.method = m → f.locked = none → f.entered = [] → (doReturn e (T.setTop f) acts v).1 = T.setFrames fs) → Steps p.tables e below (T.setTop g) (T.setFrames fs)) : Goes p e below (FinH Z EL s kc ks Q) T g := by
  obtain ⟨fs, hr, hrun, hended, hW⟩ := X.leaveW hS (by rw [eT]; exact hk) hv hlk
  refine ⟨_, _, k fs hr, hrun, hended, _, _, rfl, hq, ?_, hW.1, hW.2.1, hW.2.2.1, hW.2.2.2.mono hkc hks⟩
  have q := CHv.at X hZ hEL H.1
  have e2 : (T.setFrames fs).heap = h := eT
  rw [e2]
  exact H.trans q
theorem gRetHN (X : Stand p l e R (s.setVm vm0) m args below meth c T locs cells slots) (hx : p.tables.exec = Jvm.exec) (hlk : meth.locks = false) {t : FieldType} (hret : meth.sig.returnType = some t) (ht : t = .boolean ∨ t = .byte ∨ t = .char ∨ t = .short) {z w : Int32} (hd : decode c.code pc = .ok (.ireturn, 1)) (hw : nar t z = w) (eT : T.heap = h) (hS : s.Since vm0 k0) (hk : k0 ≤ h.size) (hZ : Z.Warmed39 (s.setVm vm0).vm) (hEL : EW Z a0 EL) (H : CHr Z EL s.vm s.heap vm0 h) (hkc : cells ≤ kc) (hks : slots ≤ ks) (hq : Q (some (.int w)) T.heap locs) : Goes p e below (FinH Z EL s kc ks Q) T (mkF m pc ls (.int z :: st)) := by
  subst hw
  exact gRetH0 X hx hlk (fun h => by rw [hret] at h; cases h) eT hS hk hZ hEL H hkc hks hq fun fs hr => retN X hx hret ht hd hr
theorem gRetHV (X : Stand p l e R (s.setVm vm0) m args below meth c T locs cells slots) (hx : p.tables.exec = Jvm.exec) (hlk : meth.locks = false) (hret : meth.sig.returnType = none) (hd : decode c.code pc = .ok (.return_, 1)) (eT : T.heap = h) (hS : s.Since vm0 k0) (hk : k0 ≤ h.size) (hZ : Z.Warmed39 (s.setVm vm0).vm) (hEL : EW Z a0 EL) (H : CHr Z EL s.vm s.heap vm0 h) (hkc : cells ≤ kc) (hks : slots ≤ ks) (hq : Q none T.heap locs) : Goes p e below (FinH Z EL s kc ks Q) T (mkF m pc ls []) :=
  gRetH0 X hx hlk (fun _ => rfl) eT hS hk hZ hEL H hkc hks hq fun fs hr => X.returnOut hx hret hd hr
theorem gRetHA (X : Stand p l e R (s.setVm vm0) m args below meth c T locs cells slots) (hx : p.tables.exec = Jvm.exec) (hlk : meth.locks = false) {t : FieldType} (hret : meth.sig.returnType = some t) (ht : t.isReference = true) {v : Value} (hv : v.isRef = true) (hd : decode c.code pc = .ok (.areturn, 1)) (eT : T.heap = h) (hS : s.Since vm0 k0) (hk : k0 ≤ h.size) (hZ : Z.Warmed39 (s.setVm vm0).vm) (hEL : EW Z a0 EL) (H : CHr Z EL s.vm s.heap vm0 h) (hkc : cells ≤ kc) (hks : slots ≤ ks) (hq : Q (some v) T.heap locs) : Goes p e below (FinH Z EL s kc ks Q) T (mkF m pc ls (v :: st)) :=
  gRetH0 X hx hlk (fun h => by rw [hret] at h; cases h) eT hS hk hZ hEL H hkc hks hq fun fs hr => retOut X hx hret (by cases t <;> first | rfl | cases ht) (Or.inr (Or.inr (Or.inr (Or.inr ⟨rfl, ht, hv⟩)))) hd hr
theorem gCallSH (X : Stand p l e R (s.setVm vm0) m args below meth c T locs cells slots) (hx : p.tables.exec = Jvm.exec) (hZ : Z.Warmed39 (s.setVm vm0).vm) {y : MethodName} {bytes : ByteArray} {maxL : Nat} {ret : Option FieldType} {rm : Room} {own : String} {i : Nat} {Qc : Option Value → Heap → List Loc → Prop} (hown : (s.setVm vm0).vm.findClass own = some m.cls) (eT : T.heap = h) (hml : ls.size = c.maxLocals) (hS : s.Since vm0 k0) (hk : k0 ≤ h.size) (hEL : EW Z a0 EL) (H : CHr Z EL s.vm s.heap vm0 h)
    (w1 : (Jvm.Cond.methodLink own i y).before a0 Z = true) (w2 : (Jvm.Cond.static y).before a0 Z = true) (w3 : (Jvm.Cond.initialized y.cls).before a0 Z = true) (w4 : (Jvm.Cond.code y bytes maxL ret).before a0 Z = true) (hy : y.cls ≠ "java/lang/invoke/MethodHandle" ∧ y.cls ≠ "java/lang/invoke/VarHandle")
    {SL : List Addr} (hsf : ∀ x ∈ SL, x < h.size ∧ Safe Z EL vm0 h x) {argsL : List Value} {stk : List Value} (hC : CtrH l Z EL SL y bytes maxL ret [] rm argsL.toArray h Qc) (hlen : ∀ sig, parseMethodDescriptor y.desc = some sig → argsL.length = sig.parameters.length) (hd : decode c.code pc = .ok (.invokestatic i, 3)) (hp : pc + 3 = pc') (hst : stk = argsL.reverse ++ st)
    (hf : rm.frames + 1 ≤ R.frames) {W : Nat} (hW : (st.map fun v => v.category).sum ≤ W) (hlo : W + (maxL + 11) + rm.locals ≤ R.locals) (hce : cells + rm.cells ≤ R.cells) (hsl : slots + rm.slots ≤ R.slots)
    (k : ∀ T' v L, Stand p l e R (s.setVm T'.vm) m args below meth c T' (locs ++ L) (cells + rm.cells) (slots + rm.slots) → s.Since T'.vm T'.heap.size → Z.Warmed39 (s.setVm T'.vm).vm → (s.setVm T'.vm).vm.findClass own = some m.cls → CHr Z EL vm0 h T'.vm T'.heap → CHr Z EL s.vm s.heap T'.vm T'.heap → Qc v T'.heap L → Goes p e below F T' (mkF m pc' ls (v.toList ++ st))) : Goes p e below F T (mkF m pc ls stk) := by
  subst hp hst
  obtain ⟨v, vm1, ⟨T', L', k', n'⟩, -, X', hS', hg', ⟨Lc, hQ, l1, y1, z1, hC2⟩, st'⟩ := callSS X hx (y := y) hown (mvT (s := s.setVm vm0) hZ w1) (mvT (s := s.setVm vm0) hZ w2) (mvT (s := s.setVm vm0) hZ w3) (mvT (s := s.setVm vm0) hZ w4) hy (backOfSG (s := s) (W := W) hC hZ w4 w3 hf hlo hEL H.1 hsf) (g := mkF m pc ls (argsL.reverse ++ st)) rfl hml (argsL := argsL) (rest := st) hlen rfl (by show 2 * 0 + _ ≤ _; omega) hd (fun _ _ => ⟨rfl, eT, hce, hsl⟩)
  dsimp only [Pt.U, Pt.locs, Pt.cells, Pt.slots] at X' l1 y1 z1 st' hQ hS' hg' hC2
  subst l1 y1 z1
  exact Goes.tr st' (k T' v Lc X' (foldS hS (by rw [eT]; exact hk) hS' hg') (State.Warmed39.trans (t := s.setVm vm0) hZ hS'.1) (by rw [show (s.setVm T'.vm).vm = T'.vm from rfl, hS'.1.alike.findClass]; exact hown) hC2 (H.trans hC2) hQ)
theorem gCallVH (X : Stand p l e R (s.setVm vm0) m args below meth c T locs cells slots) (hx : p.tables.exec = Jvm.exec) (hZ : Z.Warmed39 (s.setVm vm0).vm) {y : MethodName} {bytes : ByteArray} {maxL : Nat} {ret : Option FieldType} {rm : Room} {own : String} {i : Nat} {Qc : Option Value → Heap → List Loc → Prop} {C : String} {a : Addr} (hown : (s.setVm vm0).vm.findClass own = some m.cls) (eT : T.heap = h) (hml : ls.size = c.maxLocals) (hS : s.Since vm0 k0) (hk : k0 ≤ h.size) (hEL : EW Z a0 EL) (H : CHr Z EL s.vm s.heap vm0 h) (E : Exa Z h a C)
    (w1 : (Jvm.Cond.methodLink own i y).before a0 Z = true) (w2 : (Jvm.Cond.declares y).before a0 Z = true) (w5 : (Jvm.Cond.selects C y y).before a0 Z = true) (w6 : (Jvm.Cond.instanceMethod y).before a0 Z = true) (w3 : (Jvm.Cond.initialized y.cls).before a0 Z = true) (w4 : (Jvm.Cond.code y bytes maxL ret).before a0 Z = true) (hy : y.cls ≠ "java/lang/invoke/MethodHandle" ∧ y.cls ≠ "java/lang/invoke/VarHandle")
    {SL : List Addr} (hsf : ∀ x ∈ SL, x < h.size ∧ Safe Z EL vm0 h x) {argsL : List Value} {stk : List Value} (hC : CtrH l Z EL SL y bytes maxL ret [] rm (.ref a :: argsL).toArray h Qc) (hlen : ∀ sig, parseMethodDescriptor y.desc = some sig → argsL.length = sig.parameters.length) (hd : decode c.code pc = .ok (.invokevirtual i, 3)) (hp : pc + 3 = pc') (hst : stk = argsL.reverse ++ .ref a :: st)
    (hf : rm.frames + 1 ≤ R.frames) {W : Nat} (hW : (st.map fun v => v.category).sum ≤ W) (hlo : W + (maxL + 11) + rm.locals ≤ R.locals) (hce : cells + rm.cells ≤ R.cells) (hsl : slots + rm.slots ≤ R.slots)
    (k : ∀ T' v L, Stand p l e R (s.setVm T'.vm) m args below meth c T' (locs ++ L) (cells + rm.cells) (slots + rm.slots) → s.Since T'.vm T'.heap.size → Z.Warmed39 (s.setVm T'.vm).vm → (s.setVm T'.vm).vm.findClass own = some m.cls → CHr Z EL vm0 h T'.vm T'.heap → CHr Z EL s.vm s.heap T'.vm T'.heap → Qc v T'.heap L → Goes p e below F T' (mkF m pc' ls (v.toList ++ st))) : Goes p e below F T (mkF m pc ls stk) := by
  subst hp hst
  obtain ⟨cq, kq, qa, qb, qc⟩ := isOf (s := s.setVm vm0) hZ eT E
  obtain ⟨v, vm1, ⟨T', L', k', n'⟩, -, X', hS', hg', ⟨Lc, hQ, l1, y1, z1, hC2⟩, st'⟩ := X.virtualBackS hx (y := y) (z := y) hown (mvT (s := s.setVm vm0) hZ w1) (mvT (s := s.setVm vm0) hZ w2) (notFace_of_selects (args := #[]) (mvT (s := s.setVm vm0) hZ w5)) (mvT (s := s.setVm vm0) hZ w5) (mvT (s := s.setVm vm0) hZ w6) hy (backOfSG (s := s) (W := W) hC hZ w4 w3 hf hlo hEL H.1 hsf) qa qc (g := mkF m pc ls (argsL.reverse ++ .ref a :: st)) rfl hml (Steps.refl _) (argsL := argsL) (rest := st) hlen rfl (by show 2 * 0 + _ ≤ _; omega) hd (fun _ _ => ⟨rfl, eT, hce, hsl⟩)
  dsimp only [Pt.U, Pt.locs, Pt.cells, Pt.slots] at X' l1 y1 z1 st' hQ hS' hg' hC2
  subst l1 y1 z1
  exact Goes.tr st' (k T' v Lc X' (foldS hS (by rw [eT]; exact hk) hS' hg') (State.Warmed39.trans (t := s.setVm vm0) hZ hS'.1) (by rw [show (s.setVm T'.vm).vm = T'.vm from rfl, hS'.1.alike.findClass]; exact hown) hC2 (H.trans hC2) hQ)
theorem gCallIH (X : Stand p l e R (s.setVm vm0) m args below meth c T locs cells slots) (hx : p.tables.exec = Jvm.exec) (hZ : Z.Warmed39 (s.setVm vm0).vm) {y : MethodName} {bytes : ByteArray} {maxL : Nat} {rm : Room} {own : String} {i : Nat} {Qc : Option Value → Heap → List Loc → Prop} {a : Addr} (hy1 : y.name = "<init>") (hown : (s.setVm vm0).vm.findClass own = some m.cls) (eT : T.heap = h) (hml : ls.size = c.maxLocals) (hS : s.Since vm0 k0) (hk : k0 ≤ h.size) (hEL : EW Z a0 EL) (H : CHr Z EL s.vm s.heap vm0 h)
    (w1 : (Jvm.Cond.methodLink own i y).before a0 Z = true) (w2 : (Jvm.Cond.instanceMethod y).before a0 Z = true) (w3 : (Jvm.Cond.initialized y.cls).before a0 Z = true) (w4 : (Jvm.Cond.code y bytes maxL none).before a0 Z = true) (hy : y.cls ≠ "java/lang/invoke/MethodHandle" ∧ y.cls ≠ "java/lang/invoke/VarHandle")
    {SL : List Addr} (hsf : ∀ x ∈ SL, x < h.size ∧ Safe Z EL vm0 h x) {argsL : List Value} {stk : List Value} (hC : CtrH l Z EL SL y bytes maxL none [] rm (.ref a :: argsL).toArray h Qc) (hlen : ∀ sig, parseMethodDescriptor y.desc = some sig → argsL.length = sig.parameters.length) (hd : decode c.code pc = .ok (.invokespecial i, 3)) (hp : pc + 3 = pc') (hst : stk = argsL.reverse ++ .ref a :: st)
    (hf : rm.frames + 1 ≤ R.frames) {W : Nat} (hW : (st.map fun v => v.category).sum ≤ W) (hlo : W + (maxL + 11) + rm.locals ≤ R.locals) (hce : cells + rm.cells ≤ R.cells) (hsl : slots + rm.slots ≤ R.slots)
    (k : ∀ T' v L, Stand p l e R (s.setVm T'.vm) m args below meth c T' (locs ++ L) (cells + rm.cells) (slots + rm.slots) → s.Since T'.vm T'.heap.size → Z.Warmed39 (s.setVm T'.vm).vm → (s.setVm T'.vm).vm.findClass own = some m.cls → CHr Z EL vm0 h T'.vm T'.heap → CHr Z EL s.vm s.heap T'.vm T'.heap → Qc v T'.heap L → Goes p e below F T' (mkF m pc' ls (v.toList ++ st))) : Goes p e below F T (mkF m pc ls stk) := by
  subst hp hst
  obtain ⟨v, vm1, ⟨T', L', k', n'⟩, -, X', hS', hg', ⟨Lc, hQ, l1, y1, z1, hC2⟩, st'⟩ := X.specialBackS hx (y := y) hy1 hown (mvT (s := s.setVm vm0) hZ w1) (mvT (s := s.setVm vm0) hZ w2) (mvT (s := s.setVm vm0) hZ w4) hy (backOfSG (s := s) (W := W) hC hZ w4 w3 hf hlo hEL H.1 hsf) (g := mkF m pc ls (argsL.reverse ++ .ref a :: st)) rfl hml (Steps.refl _) (a := a) (argsL := argsL) (rest := st) hlen rfl (by show 2 * 0 + _ ≤ _; omega) hd (fun _ _ => ⟨rfl, eT, hce, hsl⟩)
  dsimp only [Pt.U, Pt.locs, Pt.cells, Pt.slots] at X' l1 y1 z1 st' hQ hS' hg' hC2
  subst l1 y1 z1
  exact Goes.tr st' (k T' v Lc X' (foldS hS (by rw [eT]; exact hk) hS' hg') (State.Warmed39.trans (t := s.setVm vm0) hZ hS'.1) (by rw [show (s.setVm T'.vm).vm = T'.vm from rfl, hS'.1.alike.findClass]; exact hown) hC2 (H.trans hC2) hQ)
theorem sl0 : ∀ x ∈ ([] : List Addr), x < h.size ∧ Safe Z EL vm0 h x := fun _ q => nomatch q
theorem sl1 {x : Addr} (q : x < h.size) (r : Safe Z EL vm0 h x) : ∀ y ∈ [x], y < h.size ∧ Safe Z EL vm0 h y := fun y z => by cases List.mem_singleton.mp z; exact ⟨q, r⟩
end OwnWide
theorem own_i2c (x : Int32) : x.toUInt32.toUInt16.toUInt32.toInt32 = x &&& 65535 := by
  apply Int32.toBitVec_inj.mp
  apply BitVec.eq_of_toNat_eq
  simp [BitVec.toNat_and]
  rw [show (65535 : Nat) = 2 ^ 16 - 1 from rfl, Nat.and_two_pow_sub_one_eq_mod]
theorem own_mask (x : Int32) : (x &&& 65535).toInt = x.toInt % 65536 := Jvm.Kit.i32_mask x 65535 (k := 16) (by decide) (by decide)
/-- compact strings are on -/
def Cpt (Z : State) (h : Heap) : Prop := ∃ cz : Int32, Sta Z h "java/lang/String" "COMPACT_STRINGS" "Z" (.int cz) ∧ ¬ cz.toInt = 0
theorem Cpt.ext {Z : State} {h h' : Heap} (E : Ext h h') (Fa : Cpt Z h) : Cpt Z h' := by obtain ⟨a, b, c⟩ := Fa; exact ⟨a, b.ext E, c⟩
theorem Cpt.wr {Z : State} {h h' : Heap} {a : Addr} {sl : Nat} {v : Value} (W : Wr h h' a sl v) (Fa : Cpt Z h) : Cpt Z h' := by obtain ⟨a, b, c⟩ := Fa; exact ⟨a, b.wr W, c⟩
theorem own_sta_keep {Z : State} {h h' : Heap} {C n d : String} {v : Value} {ws : List Addr} (Fa : Sta Z h C n d v) (K : Keep h h' ws) (q : ∀ x ∈ ws, ∀ cell : Cell, h[x]? = some cell → cell.vm.isStatics = false) : Sta Z h' C n d v := by
  obtain ⟨cf, i, k, f, st, cell, h1, h2, h3, h4, h5, h6, h7⟩ := Fa
  refine ⟨cf, i, k, f, st, cell, h1, h2, h3, h4, K.2.1 _ _ h5 (fun hm => ?_), h6, h7⟩
  have := q _ hm _ h5
  rw [h6] at this; cases this
theorem own_cpt_keep {Z : State} {h h' : Heap} {ws : List Addr} (Fa : Cpt Z h) (K : Keep h h' ws) (q : ∀ x ∈ ws, ∀ cell : Cell, h[x]? = some cell → cell.vm.isStatics = false) : Cpt Z h' := by
  obtain ⟨a, b, c⟩ := Fa; exact ⟨a, own_sta_keep b K q, c⟩
def Sio (Z : State) (h : Heap) : Prop := ∃ sf : Value, Sta Z h "jdk/internal/util/Preconditions" "SIOOBE_FORMATTER" "Ljava/util/function/BiFunction;" sf ∧ sf.isRef = true
theorem Sio.ext {Z : State} {h h' : Heap} (E : Ext h h') (Fa : Sio Z h) : Sio Z h' := by obtain ⟨a, b, c⟩ := Fa; exact ⟨a, b.ext E, c⟩
theorem Sio.wr {Z : State} {h h' : Heap} {a : Addr} {sl : Nat} {v : Value} (W : Wr h h' a sl v) (Fa : Sio Z h) : Sio Z h' := by obtain ⟨a, b, c⟩ := Fa; exact ⟨a, b.wr W, c⟩
theorem own_sio_keep {Z : State} {h h' : Heap} {ws : List Addr} (Fa : Sio Z h) (K : Keep h h' ws) (q : ∀ x ∈ ws, ∀ cell : Cell, h[x]? = some cell → cell.vm.isStatics = false) : Sio Z h' := by
  obtain ⟨a, b, c⟩ := Fa; exact ⟨a, own_sta_keep b K q, c⟩
theorem own_nb (x : Int32) : nar .byte x.toInt8.toInt32 = x.toInt8.toInt32 := by simp [nar]
theorem own_nc {c : Int32} (h : 0 ≤ c.toInt ∧ c.toInt ≤ 65535) : nar .char c = c := by
  show c.toUInt32.toUInt16.toUInt32.toInt32 = c
  rw [own_i2c]
  apply Int32.toInt_inj.mp
  rw [own_mask]; omega
theorem own_c8 {c : Int32} (h : 0 ≤ c.toInt ∧ c.toInt ≤ 255) : 0 ≤ c.toInt ∧ c.toInt ≤ 65535 := by omega
theorem own_mask8 (x : Int32) : (x &&& 255).toInt = x.toInt % 256 := Jvm.Kit.i32_mask x 255 (k := 8) (by decide) (by decide)
theorem own_b8 {c : Int32} : c.toInt8.toInt32.toInt = c.toInt.bmod 256 := by simp
theorem own_ch {c : Int32} (h : 0 ≤ c.toInt ∧ c.toInt ≤ 255) : (c.toInt8.toInt32 &&& 255).toUInt32.toUInt16.toUInt32.toInt32 = c := by
  rw [own_i2c]
  apply Int32.toInt_inj.mp
  rw [own_mask, own_mask8, own_b8, Int.bmod_def]; split <;> omega
theorem own_binj {a b : Int32} (ha : 0 ≤ a.toInt ∧ a.toInt ≤ 255) (hb : 0 ≤ b.toInt ∧ b.toInt ≤ 255) : a.toInt8.toInt32 = b.toInt8.toInt32 ↔ a.toInt = b.toInt := by
  constructor
  · intro q
    have := own_ch ha; rw [q, own_ch hb] at this; rw [this]
  · intro q; rw [Int32.toInt_inj.mp q]
abbrev rg (c : Int32) : Prop := 0 ≤ c.toInt ∧ c.toInt ≤ 255
abbrev sE (Z : State) (h : Heap) (a : Addr) : Prop := Exa Z h a "java/lang/String"
abbrev sC (Z : State) (h : Heap) (a : Addr) : Prop := Fld Z h a "java/lang/String" "coder" "B" (.int 0)
abbrev sV (Z : State) (h : Heap) (a t : Addr) : Prop := Fld Z h a "java/lang/String" "value" "[B" (.ref t)
abbrev sA (Z : State) (h : Heap) (t : Addr) (ck : ClassId) (n : Int32) (vs : List Value) : Prop := Arv Z h t ck .byte n vs (.int 0)
def SQd (Z : State) (h0 : Heap) (n : Int32) (vs : List Value) (v : Option Value) (h : Heap) (L : List Loc) : Prop := ∃ (a t : Addr) (ct : ClassId), v = some (.ref a) ∧ Fr h0.size L ∧ Keep h0 h [] ∧ sE Z h a ∧ sC Z h a ∧ sV Z h a t ∧ sA Z h t ct n vs
abbrev by8 (c : Int32) : Value := .int c.toInt8.toInt32
theorem own_beq {c : Int32} (h : 0 ≤ c.toInt ∧ c.toInt ≤ 255) {k : Int} (hk : 0 ≤ k ∧ k ≤ 127) : c.toInt8.toInt32.toInt = k ↔ c.toInt = k := by
  rw [own_b8, Int.bmod_def]; split <;> omega
theorem own_fv {args : Array Value} {s : State} {t r : Term} {a : Addr} {w : Value} {C n d : String} (ht : t.eval args s none [] s = some (.ref a)) (h : (Jvm.Cond.eq (.field t C n d) r).value args s none s [] = some true) (hr : r.eval args s none [] s = some w) : s.fieldOf? a C n d = some w := by
  have e := fld_at (C := C) (n := n) (dd := d) ht
  simp only [Cond.value, e, hr] at h
  cases hv : s.fieldOf? a C n d with
  | none => rw [hv] at h; simp at h
  | some u =>
    rw [hv] at h
    cases u <;> cases w <;> simp_all
def Known (Z : State) (h0 : Heap) (a_INVALID a_FILTER a_SUSPICIOUS a_NOT_PORTABLE a_ERROR_PAGE a_SERVLET_MAPPING a_WELCOME_FILE a_SERVLET : Addr) : Prop := Sta Z h0 "com/example/strict_chain/strictchain/Finding$Kind" "INVALID" "Lcom/example/strict_chain/strictchain/Finding$Kind;" (.ref a_INVALID) ∧ Sta Z h0 "com/example/strict_chain/strictchain/Finding$Subject" "FILTER" "Lcom/example/strict_chain/strictchain/Finding$Subject;" (.ref a_FILTER) ∧ Sta Z h0 "com/example/strict_chain/strictchain/Finding$Kind" "SUSPICIOUS" "Lcom/example/strict_chain/strictchain/Finding$Kind;" (.ref a_SUSPICIOUS) ∧ Sta Z h0 "com/example/strict_chain/strictchain/Finding$Kind" "NOT_PORTABLE" "Lcom/example/strict_chain/strictchain/Finding$Kind;" (.ref a_NOT_PORTABLE) ∧ Sta Z h0 "com/example/strict_chain/strictchain/Finding$Subject" "ERROR_PAGE" "Lcom/example/strict_chain/strictchain/Finding$Subject;" (.ref a_ERROR_PAGE) ∧ Sta Z h0 "com/example/strict_chain/strictchain/Finding$Subject" "SERVLET_MAPPING" "Lcom/example/strict_chain/strictchain/Finding$Subject;" (.ref a_SERVLET_MAPPING) ∧ Sta Z h0 "com/example/strict_chain/strictchain/Finding$Subject" "WELCOME_FILE" "Lcom/example/strict_chain/strictchain/Finding$Subject;" (.ref a_WELCOME_FILE) ∧ Sta Z h0 "com/example/strict_chain/strictchain/Finding$Subject" "SERVLET" "Lcom/example/strict_chain/strictchain/Finding$Subject;" (.ref a_SERVLET) ∧ Exa Z h0 a_INVALID "com/example/strict_chain/strictchain/Finding$Kind" ∧ Exa Z h0 a_FILTER "com/example/strict_chain/strictchain/Finding$Subject" ∧ Exa Z h0 a_SUSPICIOUS "com/example/strict_chain/strictchain/Finding$Kind" ∧ Exa Z h0 a_NOT_PORTABLE "com/example/strict_chain/strictchain/Finding$Kind" ∧ Exa Z h0 a_ERROR_PAGE "com/example/strict_chain/strictchain/Finding$Subject" ∧ Exa Z h0 a_SERVLET_MAPPING "com/example/strict_chain/strictchain/Finding$Subject" ∧ Exa Z h0 a_WELCOME_FILE "com/example/strict_chain/strictchain/Finding$Subject" ∧ Exa Z h0 a_SERVLET "com/example/strict_chain/strictchain/Finding$Subject" ∧ Fld Z h0 a_INVALID "java/lang/Enum" "ordinal" "I" (.int (0 : Int32)) ∧ Fld Z h0 a_SUSPICIOUS "java/lang/Enum" "ordinal" "I" (.int (2 : Int32)) ∧ Fld Z h0 a_NOT_PORTABLE "java/lang/Enum" "ordinal" "I" (.int (1 : Int32)) ∧ Fld Z h0 a_WELCOME_FILE "java/lang/Enum" "ordinal" "I" (.int (4 : Int32)) ∧ Fld Z h0 a_SERVLET "java/lang/Enum" "ordinal" "I" (.int (1 : Int32)) ∧ Fld Z h0 a_FILTER "java/lang/Enum" "ordinal" "I" (.int (0 : Int32)) ∧ Fld Z h0 a_SERVLET_MAPPING "java/lang/Enum" "ordinal" "I" (.int (2 : Int32)) ∧ Fld Z h0 a_ERROR_PAGE "java/lang/Enum" "ordinal" "I" (.int (3 : Int32))
def chv (x : Int64) (i : Int32) : Int32 := (((((x.toUInt64 >>> (((2 : Int32) + ((8 : Int32) * i)) &&& 0x3f).toInt64.toUInt64).toInt64) &&& (255 : Int64)).toInt32).toUInt32.toUInt16.toUInt32.toInt32)
theorem chv_rg (x : Int64) (i : Int32) : rg (chv x i) := by
  unfold chv
  generalize ((x.toUInt64 >>> (((2 : Int32) + ((8 : Int32) * i)) &&& 0x3f).toInt64.toUInt64).toInt64) = y
  have e1 : (y &&& 255).toInt = y.toInt % 2 ^ 8 := Jvm.Kit.i64_mask y 255 (by decide) (by decide)
  have e2 : ((y &&& 255).toInt32).toInt = (y &&& 255).toInt := Jvm.Kit.i32_of_i64 (by omega) (by omega)
  rw [own_i2c]
  show 0 ≤ ((y &&& 255).toInt32 &&& 65535).toInt ∧ ((y &&& 255).toInt32 &&& 65535).toInt ≤ 255
  rw [own_mask, e2]; omega
theorem own_n3 (x : Int64) : ((x &&& 3).toInt32) = 0 ∨ ((x &&& 3).toInt32) = 1 ∨ ((x &&& 3).toInt32) = 2 ∨ ((x &&& 3).toInt32) = 3 := by
  have e1 : (x &&& 3).toInt = x.toInt % 2 ^ 2 := Jvm.Kit.i64_mask x 3 (by decide) (by decide)
  have e2 : ((x &&& 3).toInt32).toInt = (x &&& 3).toInt := Jvm.Kit.i32_of_i64 (by omega) (by omega)
  simp only [← Int32.toInt_inj, e2]
  have t0 : (0 : Int32).toInt = 0 := rfl
  have t1 : (1 : Int32).toInt = 1 := rfl
  have t2 : (2 : Int32).toInt = 2 := rfl
  have t3 : (3 : Int32).toInt = 3 := rfl
  omega
def txl (n a b c : Int32) : List Int32 := if n.toInt = 0 then [] else if n.toInt = 1 then [a] else if n.toInt = 2 then [a, b] else [a, b, c]
theorem txl_0 {a b c : Int32} : txl 0 a b c = [] := by unfold txl; rw [if_pos (by decide)]
theorem txl_1 {a b c : Int32} : txl 1 a b c = [a] := by unfold txl; rw [if_neg (by decide), if_pos (by decide)]
theorem txl_2 {a b c : Int32} : txl 2 a b c = [a, b] := by unfold txl; rw [if_neg (by decide), if_neg (by decide), if_pos (by decide)]
theorem txl_3 {a b c : Int32} : txl 3 a b c = [a, b, c] := by unfold txl; rw [if_neg (by decide), if_neg (by decide), if_neg (by decide)]
theorem txl_ne {n m a b c d f g : Int32} (hn : n = 0 ∨ n = 1 ∨ n = 2 ∨ n = 3) (hm : m = 0 ∨ m = 1 ∨ m = 2 ∨ m = 3) (q : ¬ n = m) : ¬ txl n a b c = txl m d f g := by
  rcases hn with rfl | rfl | rfl | rfl <;> rcases hm with rfl | rfl | rfl | rfl <;> first | exact absurd rfl q | (simp only [txl_0, txl_1, txl_2, txl_3]; intro r; simp at r)
def txt (x : Int64) : List Int32 := txl ((x &&& (3 : Int64)).toInt32) (chv x 0) (chv x 1) (chv x 2)
theorem txt_len (x : Int64) : (txt x).length ≤ 3 := by
  unfold txt txl; repeat' split
  all_goals simp
theorem txt_rg (x : Int64) : ∀ c ∈ txt x, rg c := by
  have r0 := chv_rg x 0; have r1 := chv_rg x 1; have r2 := chv_rg x 2
  unfold txt txl; repeat' split
  all_goals (intro c hc; simp only [List.mem_cons, List.not_mem_nil, or_false] at hc)
  · subst hc; exact r0
  · rcases hc with rfl | rfl <;> assumption
  · rcases hc with rfl | rfl | rfl <;> assumption
def StrL (Z : State) (h : Heap) (a : Addr) (xs : List Int32) : Prop := ∃ (t : Addr) (ct : ClassId), sE Z h a ∧ sC Z h a ∧ sV Z h a t ∧ sA Z h t ct (Int32.ofNat xs.length) (xs.map by8)
theorem StrL.exa {Z : State} {h : Heap} {a : Addr} {xs : List Int32} (q : StrL Z h a xs) : sE Z h a := by obtain ⟨_, _, E, _⟩ := q; exact E
theorem own_len_ne : ∀ n, n < 4 → ∀ m, m < 4 → n ≠ m → ¬ Int32.ofNat n = Int32.ofNat m := by decide
theorem own_notcast {Z : State} {a0 : Array Value} {C O K : String} {n : Nat} (w : (Jvm.Cond.superclass C O).before a0 Z = true) (wr : (Jvm.Cond.noSuperclass O).before a0 Z = true) (wk : (Jvm.Cond.instantiable K n).before a0 Z = true) (h1 : C ≠ K) (h2 : O ≠ K) : ∃ c t, Z.vm.findClass C = some c ∧ Z.vm.findClass K = some t ∧ Z.vm.assignable c t = false := by
  obtain ⟨t, kt, g0, g1, g2, g3, -⟩ := Cond.instantiable_spec wk
  obtain ⟨c, f0⟩ := found_sup w
  obtain ⟨o, k, ko, f1, f2, f3, f4, f5, -, -⟩ := Cond.superclass_spec f0 w
  obtain ⟨o', k', f6, f7, f8, -, -⟩ := Cond.noSuperclass_spec wr
  cases f1.symm.trans f6
  cases f3.symm.trans f7
  have ne1 := ids_ne f0 g0 h1
  have ne2 := ids_ne f1 g0 h2
  have g4 : kt.isInterface = false := by simp at g3; exact g3.1
  refine ⟨c, t, f0, g0, ?_⟩
  show Z.vm.assignableAux (255 + 1) c t = false
  have ns : ∀ fuel, Z.vm.isSubclassAux fuel c t = false := by
    intro fuel
    cases fuel with
    | zero => rfl
    | succ f =>
      cases f with
      | zero => simp [Vm.isSubclassAux, ne1, f2, f4]
      | succ f => simp [Vm.isSubclassAux, ne1, ne2, f2, f4, f3, f8]
  simp [Vm.assignableAux, ne1, f2, g1, f5, g2, g4, Vm.isSubclass, ns]
section OwnInst
variable {p : Program} {l : Launch} {e : Env} {R : Room} {s : State} {m : MethodId} {args : Array Value} {below : List Frame} {meth : Method} {c : Code} {T : State} {locs : List Loc} {cells slots : Nat}
variable {F : State → Outcome → Prop} {pc pc' : Nat} {ls : Array Slot} {st : List Value} {Z : State} {a0 : Array Value} {h : Heap} {a : Addr}
theorem gInstN (X : Stand p l e R s m args below meth c T locs cells slots) (hx : p.tables.exec = Jvm.exec) (hZ : Z.Warmed39 s.vm) {own K C : String} {i : Nat} (hown : s.vm.findClass own = some m.cls) (w : (Jvm.Cond.classLink own i K).before a0 Z = true) (eT : T.heap = h) (E : Exa Z h a C) (I : ∃ c t, Z.vm.findClass C = some c ∧ Z.vm.findClass K = some t ∧ Z.vm.assignable c t = false) (hd : decode c.code pc = .ok (.instanceof i, 3)) (hp : pc + 3 = pc')
    (k : ∀ T', Stand p l e R s m args below meth c T' locs cells slots → T'.heap = h → Goes p e below F T' (mkF m pc' ls (.int 0 :: st))) : Goes p e below F T (mkF m pc ls (.ref a :: st)) := by
  subst hp
  obtain ⟨T', X', e', st'⟩ := instNo X hx hZ hown w eT E I (g := mkF m pc ls (.ref a :: st)) rfl rfl hd
  exact Goes.fore st' (k T' X' e')
theorem gInstZ (X : Stand p l e R s m args below meth c T locs cells slots) (hx : p.tables.exec = Jvm.exec) {i : Nat} (hd : decode c.code pc = .ok (.instanceof i, 3)) (hp : pc + 3 = pc') (k : Goes p e below F T (mkF m pc' ls (.int 0 :: st))) : Goes p e below F T (mkF m pc ls (.null :: st)) := by
  subst hp
  exact Goes.fore (Jvm.Stand.instanceofNull X hx (g := mkF m pc ls (.null :: st)) rfl rfl hd) k
end OwnInst
def kd (i : Int32) (a0 a1 a2 : Addr) : Addr := if i.toInt = 0 then a0 else if i.toInt = 1 then a1 else a2
theorem kd_0 {a0 a1 a2 : Addr} : kd 0 a0 a1 a2 = a0 := by unfold kd; rw [if_pos (by decide)]
theorem kd_1 {a0 a1 a2 : Addr} : kd 1 a0 a1 a2 = a1 := by unfold kd; rw [if_neg (by decide)]; rw [if_pos (by decide)]
theorem kd_2 {a0 a1 a2 : Addr} : kd 2 a0 a1 a2 = a2 := by unfold kd; rw [if_neg (by decide)]; rw [if_neg (by decide)]
def sd (i : Int32) (a0 a1 a2 a3 a4 : Addr) : Addr := if i.toInt = 0 then a0 else if i.toInt = 1 then a1 else if i.toInt = 2 then a2 else if i.toInt = 3 then a3 else a4
theorem sd_0 {a0 a1 a2 a3 a4 : Addr} : sd 0 a0 a1 a2 a3 a4 = a0 := by unfold sd; rw [if_pos (by decide)]
theorem sd_1 {a0 a1 a2 a3 a4 : Addr} : sd 1 a0 a1 a2 a3 a4 = a1 := by unfold sd; rw [if_neg (by decide)]; rw [if_pos (by decide)]
theorem sd_2 {a0 a1 a2 a3 a4 : Addr} : sd 2 a0 a1 a2 a3 a4 = a2 := by unfold sd; rw [if_neg (by decide)]; rw [if_neg (by decide)]; rw [if_pos (by decide)]
theorem sd_3 {a0 a1 a2 a3 a4 : Addr} : sd 3 a0 a1 a2 a3 a4 = a3 := by unfold sd; rw [if_neg (by decide)]; rw [if_neg (by decide)]; rw [if_neg (by decide)]; rw [if_pos (by decide)]
theorem sd_4 {a0 a1 a2 a3 a4 : Addr} : sd 4 a0 a1 a2 a3 a4 = a4 := by unfold sd; rw [if_neg (by decide)]; rw [if_neg (by decide)]; rw [if_neg (by decide)]; rw [if_neg (by decide)]
theorem kd_inj {i j : Int32} {a0 a1 a2 : Addr} (hi : i = 0 ∨ i = 1 ∨ i = 2) (hj : j = 0 ∨ j = 1 ∨ j = 2) (d01 : a0 ≠ a1) (d02 : a0 ≠ a2) (d12 : a1 ≠ a2) (q : kd i a0 a1 a2 = kd j a0 a1 a2) : i = j := by
  rcases hi with rfl | rfl | rfl <;> rcases hj with rfl | rfl | rfl <;> simp only [kd_0, kd_1, kd_2] at q <;> first | rfl | exact absurd q d01 | exact absurd q d02 | exact absurd q d12 | exact absurd q.symm d01 | exact absurd q.symm d02 | exact absurd q.symm d12
theorem sd_inj {i j : Int32} {a0 a1 a2 a3 a4 : Addr} (hi : i = 0 ∨ i = 1 ∨ i = 2 ∨ i = 3 ∨ i = 4) (hj : j = 0 ∨ j = 1 ∨ j = 2 ∨ j = 3 ∨ j = 4) (d01 : a0 ≠ a1) (d02 : a0 ≠ a2) (d03 : a0 ≠ a3) (d04 : a0 ≠ a4) (d12 : a1 ≠ a2) (d13 : a1 ≠ a3) (d14 : a1 ≠ a4) (d23 : a2 ≠ a3) (d24 : a2 ≠ a4) (d34 : a3 ≠ a4) (q : sd i a0 a1 a2 a3 a4 = sd j a0 a1 a2 a3 a4) : i = j := by
  rcases hi with rfl | rfl | rfl | rfl | rfl <;> rcases hj with rfl | rfl | rfl | rfl | rfl <;> simp only [sd_0, sd_1, sd_2, sd_3, sd_4] at q <;> first | rfl | exact absurd q d01 | exact absurd q d02 | exact absurd q d03 | exact absurd q d04 | exact absurd q d12 | exact absurd q d13 | exact absurd q d14 | exact absurd q d23 | exact absurd q d24 | exact absurd q d34 | exact absurd q.symm d01 | exact absurd q.symm d02 | exact absurd q.symm d03 | exact absurd q.symm d04 | exact absurd q.symm d12 | exact absurd q.symm d13 | exact absurd q.symm d14 | exact absurd q.symm d23 | exact absurd q.symm d24 | exact absurd q.symm d34
theorem kd_exa {Z : State} {h : Heap} {C : String} (i : Int32) {a0 a1 a2 : Addr} (e0 : Exa Z h a0 C) (e1 : Exa Z h a1 C) (e2 : Exa Z h a2 C) : Exa Z h (kd i a0 a1 a2) C := by
  unfold kd; repeat' split
  all_goals assumption
theorem sd_exa {Z : State} {h : Heap} {C : String} (i : Int32) {a0 a1 a2 a3 a4 : Addr} (e0 : Exa Z h a0 C) (e1 : Exa Z h a1 C) (e2 : Exa Z h a2 C) (e3 : Exa Z h a3 C) (e4 : Exa Z h a4 C) : Exa Z h (sd i a0 a1 a2 a3 a4) C := by
  unfold sd; repeat' split
  all_goals assumption
theorem own_r3 (x : Int32) : (x &&& 3) % 3 = 0 ∨ (x &&& 3) % 3 = 1 ∨ (x &&& 3) % 3 = 2 := by
  have e1 : (x &&& 3).toInt = x.toInt % 2 ^ 2 := Jvm.Kit.i32_mask x 3 (by decide) (by decide)
  have e2 : ((x &&& 3) % 3).toInt = (x &&& 3).toInt % 3 := Jvm.Kit.i32_rem_nonneg (by omega)
  simp only [← Int32.toInt_inj, e2]
  have t0 : (0 : Int32).toInt = 0 := rfl
  have t1 : (1 : Int32).toInt = 1 := rfl
  have t2 : (2 : Int32).toInt = 2 := rfl
  omega
theorem own_r5 (x : Int32) : (x &&& 7) % 5 = 0 ∨ (x &&& 7) % 5 = 1 ∨ (x &&& 7) % 5 = 2 ∨ (x &&& 7) % 5 = 3 ∨ (x &&& 7) % 5 = 4 := by
  have e1 : (x &&& 7).toInt = x.toInt % 2 ^ 3 := Jvm.Kit.i32_mask x 7 (by decide) (by decide)
  have e2 : ((x &&& 7) % 5).toInt = (x &&& 7).toInt % 5 := Jvm.Kit.i32_rem_nonneg (by omega)
  simp only [← Int32.toInt_inj, e2]
  have t0 : (0 : Int32).toInt = 0 := rfl
  have t1 : (1 : Int32).toInt = 1 := rfl
  have t2 : (2 : Int32).toInt = 2 := rfl
  have t3 : (3 : Int32).toInt = 3 := rfl
  have t4 : (4 : Int32).toInt = 4 := rfl
  omega
theorem d11_0 : decode method_5_code 0 = .ok (.lload_n 0, 1) := by decide +kernel
theorem d11_1 : decode method_5_code 1 = .ok (.iconst 2, 1) := by decide +kernel
theorem d11_2 : decode method_5_code 2 = .ok (.bipush 8, 2) := by decide +kernel
theorem d11_4 : decode method_5_code 4 = .ok (.iload_n 2, 1) := by decide +kernel
theorem d11_5 : decode method_5_code 5 = .ok (.imul, 1) := by decide +kernel
theorem d11_6 : decode method_5_code 6 = .ok (.iadd, 1) := by decide +kernel
theorem d11_7 : decode method_5_code 7 = .ok (.lushr, 1) := by decide +kernel
theorem d11_8 : decode method_5_code 8 = .ok (.ldc2_w 64, 3) := by decide +kernel
theorem d11_11 : decode method_5_code 11 = .ok (.land, 1) := by decide +kernel
theorem d11_12 : decode method_5_code 12 = .ok (.l2i, 1) := by decide +kernel
theorem d11_13 : decode method_5_code 13 = .ok (.i2c, 1) := by decide +kernel
theorem d11_14 : decode method_5_code 14 = .ok (.ireturn, 1) := by decide +kernel
abbrev mn2 : MethodName := ⟨"com/example/strict_chain/strictchain/FindingEqualsPinLaw", "ch", "(JI)C"⟩
theorem pn_1 : plainName "com/example/strict_chain/strictchain/FindingEqualsPinLaw" = true := by first | (simp [plainName, overriddenIn]; done) | decide +kernel
theorem c_ch (l : Launch) (Z : State) (a0 : Array Value) (hw : ∀ d ∈ tables_1, d.before a0 Z = true) (x : Int64) (i z : Int32) (hz : z = chv x i) (h0 : Heap)  :
    Ctr l Z mn2 method_5_code 3 (some .char) [] ⟨0, 0, 0, 0⟩ #[(.long x), (.int i)] h0 (Just h0 (.int z)) := by
  refine Ctr.of (plainFor_of_name pn_1) ?_
  intro p e s m below meth c s₁ hx H hml hret hown hnm hZ hlk X0 e0
  refine Goes.cast (show entryFrame m _ _ = mkF m 0 #[.val (.long x), .second, .val (.int i)] [] from rfl) ?_
  refine gLoadJN 1 X0 hx (H d11_0) rfl rfl ?_
  refine gIconst 2 X0 hx (v := (2 : Int32)) (H d11_1) rfl rfl ?_
  refine gBipush 4 X0 hx (v := (8 : Int32)) (H d11_2) rfl rfl ?_
  refine gLoadIN 5 X0 hx (H d11_4) rfl rfl ?_
  refine gImul 6 X0 hx (H d11_5) rfl ?_
  refine gIadd 7 X0 hx (H d11_6) rfl ?_
  refine gLushr 8 X0 hx (H d11_7) rfl ?_
  refine gLdc2 11 X0 hx hZ hown (ow hw 8 rfl) (H d11_8) rfl ?_
  refine gLand 12 X0 hx (H d11_11) rfl ?_
  refine gL2i 13 X0 hx (H d11_12) rfl ?_
  refine gI2c 14 X0 hx (H d11_13) rfl ?_
  exact gRetN X0 hx hlk hret (by simp) (H d11_14) (w := (((((x.toUInt64 >>> (((2 : Int32) + ((8 : Int32) * i)) &&& 0x3f).toInt64.toUInt64).toInt64) &&& (255 : Int64)).toInt32).toUInt32.toUInt16.toUInt32.toInt32)) (own_nc (own_c8 (chv_rg x i))) (by decide) (by decide) (⟨by rw [hz]; rfl, e0, rfl⟩)
theorem d2_0 : decode jdk_42_method_149_code 0 = .ok (.aload_n 0, 1) := by decide +kernel
theorem d2_1 : decode jdk_42_method_149_code 1 = .ok (.invokespecial 1, 3) := by decide +kernel
theorem d2_4 : decode jdk_42_method_149_code 4 = .ok (.iload_n 3, 1) := by decide +kernel
theorem d2_5 : decode jdk_42_method_149_code 5 = .ok (.ifCond .ne 22, 3) := by decide +kernel
theorem d2_8 : decode jdk_42_method_149_code 8 = .ok (.aload_n 0, 1) := by decide +kernel
theorem d2_9 : decode jdk_42_method_149_code 9 = .ok (.ldc 7, 2) := by decide +kernel
theorem d2_11 : decode jdk_42_method_149_code 11 = .ok (.getfield 9, 3) := by decide +kernel
theorem d2_14 : decode jdk_42_method_149_code 14 = .ok (.putfield 9, 3) := by decide +kernel
theorem d2_17 : decode jdk_42_method_149_code 17 = .ok (.aload_n 0, 1) := by decide +kernel
theorem d2_18 : decode jdk_42_method_149_code 18 = .ok (.ldc 7, 2) := by decide +kernel
theorem d2_20 : decode jdk_42_method_149_code 20 = .ok (.getfield 15, 3) := by decide +kernel
theorem d2_23 : decode jdk_42_method_149_code 23 = .ok (.putfield 15, 3) := by decide +kernel
theorem d2_26 : decode jdk_42_method_149_code 26 = .ok (.return_, 1) := by decide +kernel
abbrev mn10 : MethodName := ⟨"java/lang/String", "<init>", "([CIILjava/lang/Void;)V"⟩
theorem pn_3 : plainName "java/lang/String" = true := by first | (simp [plainName, overriddenIn]; done) | decide +kernel
theorem c_sinit_0v (l : Launch) (Z : State) (a0 : Array Value) (hw : ∀ d ∈ tables_1, d.before a0 Z = true) (a x : Addr) (cx : ClassId) (n0 : Nat) (h0 : Heap) (hEL : EW Z a0 [("com/example/strict_chain/strictchain/Finding", 7), ("com/example/strict_chain/strictchain/Finding", 22), ("com/example/strict_chain/strictchain/Finding", 29), ("com/example/strict_chain/strictchain/Finding", 36), ("java/lang/String", 7)]) (ga : n0 ≤ a) (E : sE Z h0 a) (C : sC Z h0 a) (V : Fld Z h0 a "java/lang/String" "value" "[B" .null) (A : Arv Z h0 x cx .char 0 [] (.int 0)) :
    CtrH l Z [("com/example/strict_chain/strictchain/Finding", 7), ("com/example/strict_chain/strictchain/Finding", 22), ("com/example/strict_chain/strictchain/Finding", 29), ("com/example/strict_chain/strictchain/Finding", 36), ("java/lang/String", 7)] [a] mn10 jdk_42_method_149_code 6 none [] ⟨2, 4, 8, 37⟩ #[(.ref a), (.ref x), (.int (0 : Int32)), (.int (0 : Int32)), .null] h0 (fun v h L => ∃ (t : Addr) (ct : ClassId), v = none ∧ Fr n0 L ∧ Keep h0 h [a] ∧ sE Z h a ∧ sC Z h a ∧ sV Z h a t ∧ sA Z h t ct 0 []) := by
  refine CtrH.of (plainFor_of_name pn_3) ?_
  intro p e s m below meth c s₁ hx H hml hret hown hnm hZ hlk X0 e0 hS H0 hSafe
  have wS : ∀ a ∈ Bundle.stringAtoms, a.before a0 Z = true := by
    intro d hd
    simp only [Bundle.stringAtoms, Bundle.sN, List.mem_cons, List.not_mem_nil, or_false] at hd
    rcases hd with rfl | rfl | rfl | rfl | rfl | rfl | rfl
    · exact (ow hw 11 rfl)
    · exact (ow hw 10 rfl)
    · exact (ow hw 28 rfl)
    · exact (ow hw 38 rfl)
    · exact (ow hw 36 rfl)
    · exact (ow hw 59 rfl)
    · exact (ow hw 60 rfl)
  refine Goes.cast (show entryFrame m _ _ = mkF m 0 #[.val (.ref a), .val (.ref x), .val (.int (0 : Int32)), .val (.int (0 : Int32)), .val .null, .unset] [] from rfl) ?_
  refine gLoadAN 1 X0 hx (H d2_0) rfl rfl rfl ?_
  refine gInitO X0 hx hZ hown (ow hw 20 rfl) (ow hw 21 rfl) (ow hw 22 rfl) e0 (by rw [hml]; rfl) (H d2_1) (pc' := 4) rfl (by decide) (W := 0) (Nat.le_of_eq rfl) (by decide) (fun T1 X1 e1 => ?_)
  refine gLoadIN 5 X1 hx (H d2_4) rfl rfl ?_
  refine gIfNeT X1 hx (H d2_5) (pc' := 27) (by decide) (by decide) (pn := 8) rfl (fun (c5 : ¬ (0 : Int) = (0 : Int)) => ?_) (fun (c5 : (0 : Int) = (0 : Int)) => ?_)
  · exact absurd c5 (by decide)
  · refine gLoadAN 9 X1 hx (H d2_8) rfl rfl rfl ?_
    refine gLdcC X1 hx hZ hown (ow hw 107 rfl) wS e1 hS (Nat.zero_le _) hEL (by simp) H0 (vs := []) (z := 0) ⟨by decide, by decide⟩ (by decide) (by decide) (H d2_9) (pc' := 11) rfl (n := 0) (by decide) (by decide) (by decide) (by decide) (fun a2 T2 h2 k2 b2 ck2 X2 e2 E2 hS hk2 hZ hown C2 H2 Ex2 Fc2 Fv2 A2 sf2 => ?_)
    have s2_0 := C2.safe E.lt (hSafe _ (by simp))
    have f2_0 := E.ext E2
    have f2_1 := C.ext E2
    have f2_2 := V.ext E2
    have zs2 : h0.size ≤ h2.size := Nat.le_trans (Nat.le_refl _) E2.1
    have K2 : Keep h0 h2 [a] := (Keep.refl h0 [a]).ext E2
    refine gGetF X2 hx hZ hown (ow hw 37 rfl) Via.refl e2 Fv2 (H d2_11) (pc' := 14) rfl (fun T3 X3 e3 => ?_)
    refine gPutF X3 hx hZ hown (ow hw 37 rfl) Via.refl e3 f2_2 f2_0 (Or.inr ⟨(ow hw 38 rfl), rfl, hnm⟩) (ow hw 10 rfl) (ty := (.array .byte)) (by decide) rfl rfl (H d2_14) (pc' := 17) rfl (fun T4 h4 X4 e4 W4 => ?_)
    have S4 := s2_0
    have H4 := H2.trans (CHr.wr W4 S4 H2.1)
    have hk4 := Nat.le_trans hk2 (Nat.le_of_eq W4.size.symm)
    have s4_0 := Safe.wr W4 S4 H2.1 s2_0
    have f4_0 := f2_0.wr W4
    have f4_1 := f2_1.other W4 (Or.inr (slot_ne (Or.inr (ow hw 36 rfl)) (Or.inr (ow hw 38 rfl)) (by decide) (t := .byte) (t' := (.array .byte)) (by decide) (by decide)))
    have f4_2 := f2_2.same W4
    have f4_3 := Ex2.wr W4
    have f4_4 := Fc2.other W4 (Or.inl (Ne.symm (sf2 _ s2_0).1))
    have f4_5 := Fv2.other W4 (Or.inl (Ne.symm (sf2 _ s2_0).1))
    have f4_6 := A2.other W4 (Ne.symm (sf2 _ s2_0).2)
    have zs4 : h0.size ≤ h4.size := by rw [W4.size]; exact zs2
    have N4 := Fr.snoc X4 (Fr.nil n0) ga
    have K4 : Keep h0 h4 [a] := K2.wr W4 (Or.inl (by simp))
    refine gLoadAN 18 X4 hx (H d2_17) rfl rfl rfl ?_
    refine gLdcC X4 hx hZ hown (ow hw 107 rfl) wS e4 hS hk4 hEL (by simp) H4 (vs := []) (z := 0) ⟨by decide, by decide⟩ (by decide) (by decide) (H d2_18) (pc' := 20) rfl (n := 0) (by decide) (by decide) (by decide) (by decide) (fun a5 T5 h5 k5 b5 ck5 X5 e5 E5 hS hk5 hZ hown C5 H5 Ex5 Fc5 Fv5 A5 sf5 => ?_)
    have s5_0 := C5.safe f4_0.lt s4_0
    have f5_0 := f4_0.ext E5
    have f5_1 := f4_1.ext E5
    have f5_2 := f4_2.ext E5
    have f5_3 := f4_3.ext E5
    have f5_4 := f4_4.ext E5
    have f5_5 := f4_5.ext E5
    have f5_6 := f4_6.ext E5
    have zs5 : h0.size ≤ h5.size := Nat.le_trans zs4 E5.1
    have K5 : Keep h0 h5 [a] := K4.ext E5
    refine gGetF X5 hx hZ hown (ow hw 35 rfl) Via.refl e5 Fc5 (H d2_20) (pc' := 23) rfl (fun T6 X6 e6 => ?_)
    refine gPutF X6 hx hZ hown (ow hw 35 rfl) Via.refl e6 f5_1 f5_0 (Or.inr ⟨(ow hw 36 rfl), rfl, hnm⟩) (ow hw 10 rfl) (ty := .byte) (by decide) rfl rfl (H d2_23) (pc' := 26) rfl (fun T7 h7 X7 e7 W7 => ?_)
    have S7 := s5_0
    have H7 := H5.trans (CHr.wr W7 S7 H5.1)
    have hk7 := Nat.le_trans hk5 (Nat.le_of_eq W7.size.symm)
    have s7_0 := Safe.wr W7 S7 H5.1 s5_0
    have f7_0 := f5_0.wr W7
    have f7_1 := f5_1.same W7
    have f7_2 := f5_2.other W7 (Or.inr (slot_ne (Or.inr (ow hw 38 rfl)) (Or.inr (ow hw 36 rfl)) (by decide) (t := (.array .byte)) (t' := .byte) (by decide) (by decide)))
    have f7_3 := f5_3.wr W7
    have f7_4 := f5_4.other W7 (Or.inl (Ne.symm (sf2 _ s2_0).1))
    have f7_5 := f5_5.other W7 (Or.inl (Ne.symm (sf2 _ s2_0).1))
    have f7_6 := f5_6.other W7 (Ne.symm (sf2 _ s2_0).2)
    have f7_7 := Ex5.wr W7
    have f7_8 := Fc5.other W7 (Or.inl (Ne.symm (sf5 _ s5_0).1))
    have f7_9 := Fv5.other W7 (Or.inl (Ne.symm (sf5 _ s5_0).1))
    have f7_10 := A5.other W7 (Ne.symm (sf5 _ s5_0).2)
    have zs7 : h0.size ≤ h7.size := by rw [W7.size]; exact zs5
    have N7 := Fr.snoc X7 N4 ga
    have K7 : Keep h0 h7 [a] := K5.wr W7 (Or.inl (by simp))
    exact gRetHV X7 hx hlk hret (H d2_26) e7 hS hk7 hZ hEL H7 (by decide) (by decide) (⟨b2, _, rfl, N7, by rw [e7]; exact K7, by rw [e7]; exact f7_0, by rw [e7]; exact f7_1, by rw [e7]; exact f7_2, by rw [e7]; exact f7_6⟩)
theorem d3_0 : decode jdk_42_method_3_code 0 = .ok (.aload_n 0, 1) := by decide +kernel
theorem d3_1 : decode jdk_42_method_3_code 1 = .ok (.aload_n 1, 1) := by decide +kernel
theorem d3_2 : decode jdk_42_method_3_code 2 = .ok (.iconst 0, 1) := by decide +kernel
theorem d3_3 : decode jdk_42_method_3_code 3 = .ok (.aload_n 1, 1) := by decide +kernel
theorem d3_4 : decode jdk_42_method_3_code 4 = .ok (.arraylength, 1) := by decide +kernel
theorem d3_5 : decode jdk_42_method_3_code 5 = .ok (.aconst_null, 1) := by decide +kernel
theorem d3_6 : decode jdk_42_method_3_code 6 = .ok (.invokespecial 27, 3) := by decide +kernel
theorem pd_13 : parseMethodDescriptor "([CIILjava/lang/Void;)V" = some ⟨[(.array .char), .int, .int, (.object "java/lang/Void")], none⟩ := by decide +kernel
theorem d3_9 : decode jdk_42_method_3_code 9 = .ok (.return_, 1) := by decide +kernel
abbrev mn9 : MethodName := ⟨"java/lang/String", "<init>", "([C)V"⟩
theorem c_sinit_0 (l : Launch) (Z : State) (a0 : Array Value) (hw : ∀ d ∈ tables_1, d.before a0 Z = true) (a x : Addr) (cx : ClassId) (n0 : Nat) (h0 : Heap) (hEL : EW Z a0 [("com/example/strict_chain/strictchain/Finding", 7), ("com/example/strict_chain/strictchain/Finding", 22), ("com/example/strict_chain/strictchain/Finding", 29), ("com/example/strict_chain/strictchain/Finding", 36), ("java/lang/String", 7)]) (ga : n0 ≤ a) (E : sE Z h0 a) (C : sC Z h0 a) (V : Fld Z h0 a "java/lang/String" "value" "[B" .null) (A : Arv Z h0 x cx .char 0 [] (.int 0)) :
    CtrH l Z [("com/example/strict_chain/strictchain/Finding", 7), ("com/example/strict_chain/strictchain/Finding", 22), ("com/example/strict_chain/strictchain/Finding", 29), ("com/example/strict_chain/strictchain/Finding", 36), ("java/lang/String", 7)] [a] mn9 jdk_42_method_3_code 2 none [] ⟨3, 4, 8, 54⟩ #[(.ref a), (.ref x)] h0 (fun v h L => ∃ (t : Addr) (ct : ClassId), v = none ∧ Fr n0 L ∧ Keep h0 h [a] ∧ sE Z h a ∧ sC Z h a ∧ sV Z h a t ∧ sA Z h t ct 0 []) := by
  refine CtrH.of (plainFor_of_name pn_3) ?_
  intro p e s m below meth c s₁ hx H hml hret hown hnm hZ hlk X0 e0 hS H0 hSafe
  refine Goes.cast (show entryFrame m _ _ = mkF m 0 #[.val (.ref a), .val (.ref x)] [] from rfl) ?_
  refine gLoadAN 1 X0 hx (H d3_0) rfl rfl rfl ?_
  refine gLoadAN 2 X0 hx (H d3_1) rfl rfl rfl ?_
  refine gIconst 3 X0 hx (v := (0 : Int32)) (H d3_2) rfl rfl ?_
  refine gLoadAN 4 X0 hx (H d3_3) rfl rfl rfl ?_
  refine gArrLen X0 hx hZ e0 A (H d3_4) (pc' := 5) rfl ?_
  refine gNull 6 X0 hx (H d3_5) rfl ?_
  refine gCallIH X0 hx hZ (y := mn10) rfl hown e0 (by rw [hml]; rfl) hS (Nat.zero_le _) hEL H0 (ow hw 16 rfl) (ow hw 17 rfl) (ow hw 11 rfl) (ow hw 19 rfl) (by decide) (sl1 E.lt (hSafe _ (by simp))) (argsL := [(.ref x), (.int (0 : Int32)), (.int (0 : Int32)), .null]) (st := []) (c_sinit_0v l Z a0 hw a x cx n0 h0 hEL ga E C V A) (lenOf pd_13 rfl) (H d3_6) (pc' := 9) rfl rfl (by decide) (W := 0) (Nat.le_of_eq rfl) (by decide) (by decide) (by decide) ?_
  intro T1 v1 L1 X1 hS hZ hown C1 H1 hQ1
  have s1_0 := C1.safe E.lt (hSafe _ (by simp))
  obtain ⟨t, ct, rfl, Nq, Kq, Eq, Cq, Vq, Aq⟩ := hQ1
  exact gRetHV X1 hx hlk hret (H d3_9) rfl hS (Nat.le_refl _) hZ hEL H1 (by decide) (by decide) (⟨t, ct, rfl, Nq, Kq, Eq, Cq, Vq, Aq⟩)
theorem d8_0 : decode jdk_52_method_21_code 0 = .ok (.iconst 0, 1) := by decide +kernel
theorem d8_1 : decode jdk_52_method_21_code 1 = .ok (.istore 5, 2) := by decide +kernel
theorem d8_3 : decode jdk_52_method_21_code 3 = .ok (.iload 5, 2) := by decide +kernel
theorem d8_5 : decode jdk_52_method_21_code 5 = .ok (.iload 4, 2) := by decide +kernel
theorem d8_7 : decode jdk_52_method_21_code 7 = .ok (.if_icmp .ge 37, 3) := by decide +kernel
theorem d8_10 : decode jdk_52_method_21_code 10 = .ok (.aload_n 0, 1) := by decide +kernel
theorem d8_11 : decode jdk_52_method_21_code 11 = .ok (.iload_n 1, 1) := by decide +kernel
theorem d8_12 : decode jdk_52_method_21_code 12 = .ok (.caload, 1) := by decide +kernel
theorem d8_13 : decode jdk_52_method_21_code 13 = .ok (.istore 6, 2) := by decide +kernel
theorem d8_15 : decode jdk_52_method_21_code 15 = .ok (.iload 6, 2) := by decide +kernel
theorem d8_17 : decode jdk_52_method_21_code 17 = .ok (.sipush 255, 3) := by decide +kernel
theorem d8_20 : decode jdk_52_method_21_code 20 = .ok (.if_icmp .le 6, 3) := by decide +kernel
theorem d8_26 : decode jdk_52_method_21_code 26 = .ok (.aload_n 2, 1) := by decide +kernel
theorem d8_27 : decode jdk_52_method_21_code 27 = .ok (.iload_n 3, 1) := by decide +kernel
theorem d8_28 : decode jdk_52_method_21_code 28 = .ok (.iload 6, 2) := by decide +kernel
theorem d8_30 : decode jdk_52_method_21_code 30 = .ok (.i2b, 1) := by decide +kernel
theorem d8_31 : decode jdk_52_method_21_code 31 = .ok (.bastore, 1) := by decide +kernel
theorem d8_32 : decode jdk_52_method_21_code 32 = .ok (.iinc 1 1, 3) := by decide +kernel
theorem d8_35 : decode jdk_52_method_21_code 35 = .ok (.iinc 3 1, 3) := by decide +kernel
theorem d8_38 : decode jdk_52_method_21_code 38 = .ok (.iinc 5 1, 3) := by decide +kernel
theorem d8_41 : decode jdk_52_method_21_code 41 = .ok (.goto (-38), 3) := by decide +kernel
theorem d8_44 : decode jdk_52_method_21_code 44 = .ok (.iload 4, 2) := by decide +kernel
theorem d8_46 : decode jdk_52_method_21_code 46 = .ok (.ireturn, 1) := by decide +kernel
abbrev mn15 : MethodName := ⟨"java/lang/StringUTF16", "compress", "([CI[BII)I"⟩
theorem pn_5 : plainName "java/lang/StringUTF16" = true := by first | (simp [plainName, overriddenIn]; done) | decide +kernel
theorem c_compress_1i (l : Launch) (Z : State) (a0 : Array Value) (hw : ∀ d ∈ tables_1, d.before a0 Z = true) (x t : Addr) (cx ct : ClassId) (n0 : Nat) (ch0 : Int32) (h0 : Heap) (gt : n0 ≤ t) (hne : x ≠ t) (A : Arv Z h0 x cx .char 1 [.int ch0] (.int 0)) (B : Arv Z h0 t ct .byte 1 [.int 0] (.int 0)) (hch0 : rg ch0) :
    Ctr l Z mn15 jdk_52_method_21_code 7 (some .int) [] ⟨0, 0, 0, 0⟩ #[(.ref x), (.int (0 : Int32)), (.ref t), (.int (0 : Int32)), (.int (1 : Int32))] h0 (fun v h L => v = some (.int 1) ∧ Fr n0 L ∧ Keep h0 h [t] ∧ sA Z h t ct 1 [by8 ch0]) := by
  refine Ctr.of (plainFor_of_name pn_5) ?_
  intro p e s m below meth c s₁ hx H hml hret hown hnm hZ hlk X0 e0
  refine Goes.cast (show entryFrame m _ _ = mkF m 0 #[.val (.ref x), .val (.int (0 : Int32)), .val (.ref t), .val (.int (0 : Int32)), .val (.int (1 : Int32)), .unset, .unset] [] from rfl) ?_
  refine gIconst 1 X0 hx (v := (0 : Int32)) (H d8_0) rfl rfl ?_
  refine gStoreI 3 X0 hx (H d8_1) (l' := #[.val (.ref x), .val (.int (0 : Int32)), .val (.ref t), .val (.int (0 : Int32)), .val (.int (1 : Int32)), .val (.int (0 : Int32)), .unset]) rfl rfl ?_
  refine gLoadI 5 X0 hx (H d8_3) rfl rfl ?_
  refine gLoadI 7 X0 hx (H d8_5) rfl rfl ?_
  refine gIcmpGe X0 hx (H d8_7) (pc' := 44) (by decide) (by decide) (pn := 10) rfl (fun (c7 : (1 : Int) ≤ (0 : Int)) => ?_) (fun (c7 : (0 : Int) < (1 : Int)) => ?_)
  · exact absurd c7 (by decide)
  · refine gLoadAN 11 X0 hx (H d8_10) rfl rfl rfl ?_
    refine gLoadIN 12 X0 hx (H d8_11) rfl rfl ?_
    refine gCaload X0 hx hZ e0 A (j := (0 : Int32)) (v := (.int ch0)) (by decide) (by decide) rfl (H d8_12) (pc' := 13) rfl ?_
    refine gStoreI 15 X0 hx (H d8_13) (l' := #[.val (.ref x), .val (.int (0 : Int32)), .val (.ref t), .val (.int (0 : Int32)), .val (.int (1 : Int32)), .val (.int (0 : Int32)), .val (.int ch0)]) rfl rfl ?_
    refine gLoadI 17 X0 hx (H d8_15) rfl rfl ?_
    refine gSipush 20 X0 hx (v := (255 : Int32)) (H d8_17) rfl rfl ?_
    refine gIcmpLe X0 hx (H d8_20) (pc' := 26) (by decide) (by decide) (pn := 23) rfl (fun (c20 : ch0.toInt ≤ (255 : Int)) => ?_) (fun (c20 : (255 : Int) < ch0.toInt) => ?_)
    · refine gLoadAN 27 X0 hx (H d8_26) rfl rfl rfl ?_
      refine gLoadIN 28 X0 hx (H d8_27) rfl rfl ?_
      refine gLoadI 30 X0 hx (H d8_28) rfl rfl ?_
      refine gI2b 31 X0 hx (H d8_30) rfl ?_
      refine gBastore X0 hx hZ e0 (x := (ch0.toInt8.toInt32)) B (j := (0 : Int32)) (by decide) (by decide) 0 (by decide) (by simp) (H d8_31) (pc' := 32) rfl (fun T1 h1 X1 e1 W1 A1 => ?_)
      have f1_0 := A.other W1 hne
      have zs1 : h0.size ≤ h1.size := by rw [W1.size]; exact (Nat.le_refl _)
      have N1 := Fr.snoc X1 (Fr.nil n0) gt
      have K1 : Keep h0 h1 [t] := (Keep.refl h0 [t]).wr W1 (Or.inl (by simp))
      have V1 : Arv Z h1 t _ .byte (1 : Int32) [(.int (ch0.toInt8.toInt32))] (.int 0) := (by have q := A1; rw [own_nb] at q; exact q)
      refine gIinc X1 hx (v := (1 : Int32)) (H d8_32) (l' := #[.val (.ref x), .val (.int (1 : Int32)), .val (.ref t), .val (.int (0 : Int32)), .val (.int (1 : Int32)), .val (.int (0 : Int32)), .val (.int ch0)]) (pc' := 35) rfl rfl rfl rfl ?_
      refine gIinc X1 hx (v := (1 : Int32)) (H d8_35) (l' := #[.val (.ref x), .val (.int (1 : Int32)), .val (.ref t), .val (.int (1 : Int32)), .val (.int (1 : Int32)), .val (.int (0 : Int32)), .val (.int ch0)]) (pc' := 38) rfl rfl rfl rfl ?_
      refine gIinc X1 hx (v := (1 : Int32)) (H d8_38) (l' := #[.val (.ref x), .val (.int (1 : Int32)), .val (.ref t), .val (.int (1 : Int32)), .val (.int (1 : Int32)), .val (.int (1 : Int32)), .val (.int ch0)]) (pc' := 41) rfl rfl rfl rfl ?_
      refine gGoto X1 hx (H d8_41) (pc' := 3) (by decide) (by decide) ?_
      refine gLoadI 5 X1 hx (H d8_3) rfl rfl ?_
      refine gLoadI 7 X1 hx (H d8_5) rfl rfl ?_
      refine gIcmpGe X1 hx (H d8_7) (pc' := 44) (by decide) (by decide) (pn := 10) rfl (fun (c7' : (1 : Int) ≤ (1 : Int)) => ?_) (fun (c7' : (1 : Int) < (1 : Int)) => ?_)
      · refine gLoadI 46 X1 hx (H d8_44) rfl rfl ?_
        exact gRetI X1 hx hlk hret (H d8_46) (by decide) (by decide) (⟨rfl, N1, by rw [e1]; exact K1, by rw [e1]; exact V1⟩)
      · exact absurd c7' (by decide)
    · exact absurd c20 (by omega)
theorem d7_0 : decode jdk_52_method_16_code 0 = .ok (.iload_n 2, 1) := by decide +kernel
theorem d7_1 : decode jdk_52_method_16_code 1 = .ok (.newarray .byte, 2) := by decide +kernel
theorem d7_3 : decode jdk_52_method_16_code 3 = .ok (.astore_n 3, 1) := by decide +kernel
theorem d7_4 : decode jdk_52_method_16_code 4 = .ok (.aload_n 0, 1) := by decide +kernel
theorem d7_5 : decode jdk_52_method_16_code 5 = .ok (.iload_n 1, 1) := by decide +kernel
theorem d7_6 : decode jdk_52_method_16_code 6 = .ok (.aload_n 3, 1) := by decide +kernel
theorem d7_7 : decode jdk_52_method_16_code 7 = .ok (.iconst 0, 1) := by decide +kernel
theorem d7_8 : decode jdk_52_method_16_code 8 = .ok (.iload_n 2, 1) := by decide +kernel
theorem d7_9 : decode jdk_52_method_16_code 9 = .ok (.invokestatic 115, 3) := by decide +kernel
theorem pd_14 : parseMethodDescriptor "([CI[BII)I" = some ⟨[(.array .char), .int, (.array .byte), .int, .int], some .int⟩ := by decide +kernel
theorem d7_12 : decode jdk_52_method_16_code 12 = .ok (.istore 4, 2) := by decide +kernel
theorem d7_14 : decode jdk_52_method_16_code 14 = .ok (.iload 4, 2) := by decide +kernel
theorem d7_16 : decode jdk_52_method_16_code 16 = .ok (.iload_n 2, 1) := by decide +kernel
theorem d7_17 : decode jdk_52_method_16_code 17 = .ok (.if_icmp .eq 40, 3) := by decide +kernel
theorem d7_57 : decode jdk_52_method_16_code 57 = .ok (.aload_n 3, 1) := by decide +kernel
theorem d7_58 : decode jdk_52_method_16_code 58 = .ok (.areturn, 1) := by decide +kernel
abbrev mn14 : MethodName := ⟨"java/lang/StringUTF16", "compress", "([CII)[B"⟩
theorem c_compress_1 (l : Launch) (Z : State) (a0 : Array Value) (hw : ∀ d ∈ tables_1, d.before a0 Z = true) (x : Addr) (cx : ClassId) (ch0 : Int32) (h0 : Heap) (A : Arv Z h0 x cx .char 1 [.int ch0] (.int 0)) (hch0 : rg ch0) :
    Ctr l Z mn14 jdk_52_method_16_code 6 (some (.array .byte)) [] ⟨1, 1, 1, 18⟩ #[(.ref x), (.int (0 : Int32)), (.int (1 : Int32))] h0 (fun v h L => ∃ (t : Addr) (ct : ClassId), v = some (.ref t) ∧ h0.size ≤ t ∧ Fr h0.size L ∧ Keep h0 h [] ∧ sA Z h t ct 1 [by8 ch0]) := by
  refine Ctr.of (plainFor_of_name pn_5) ?_
  intro p e s m below meth c s₁ hx H hml hret hown hnm hZ hlk X0 e0
  refine Goes.cast (show entryFrame m _ _ = mkF m 0 #[.val (.ref x), .val (.int (0 : Int32)), .val (.int (1 : Int32)), .unset, .unset, .unset] [] from rfl) ?_
  refine gLoadIN 1 X0 hx (H d7_0) rfl rfl ?_
  refine gNewP X0 hx hZ (ow hw 28 rfl) e0 (n := (1 : Int32)) (H d7_1) (by decide) (cap := 1) (by decide) (by decide) (by decide) (by decide) 1 (pc' := 3) rfl (fun T1 h1 b1 ck1 X1 e1 g1 E1 A1 => ?_)
  have ne_x_b1 : x ≠ b1 := Nat.ne_of_lt (Nat.lt_of_lt_of_eq A.lt g1.symm)
  have f1_0 := A.ext E1
  have sz_b1 : h0.size ≤ b1 := Nat.le_trans (Nat.le_refl _) (Nat.le_of_eq g1.symm)
  have zs1 : h0.size ≤ h1.size := Nat.le_trans (Nat.le_refl _) E1.1
  have K1 : Keep h0 h1 [] := (Keep.refl h0 []).ext E1
  have V1 : Arv Z h1 b1 ck1 .byte (1 : Int32) [(.int (0 : Int32))] (.int (0 : Int32)) := A1
  refine gStoreAN 4 X1 hx (H d7_3) (l' := #[.val (.ref x), .val (.int (0 : Int32)), .val (.int (1 : Int32)), .val (.ref b1), .unset, .unset]) rfl rfl rfl ?_
  refine gLoadAN 5 X1 hx (H d7_4) rfl rfl rfl ?_
  refine gLoadIN 6 X1 hx (H d7_5) rfl rfl ?_
  refine gLoadAN 7 X1 hx (H d7_6) rfl rfl rfl ?_
  refine gIconst 8 X1 hx (v := (0 : Int32)) (H d7_7) rfl rfl ?_
  refine gLoadIN 9 X1 hx (H d7_8) rfl rfl ?_
  refine gCallS X1 hx hZ (y := mn15) hown e1 (by rw [hml]; rfl) (ow hw 29 rfl) (ow hw 30 rfl) (ow hw 26 rfl) (ow hw 31 rfl) (by decide) (argsL := [(.ref x), (.int (0 : Int32)), (.ref b1), (.int (0 : Int32)), (.int (1 : Int32))]) (st := []) (c_compress_1i l Z a0 hw x b1 cx ck1 h0.size ch0 h1 sz_b1 ne_x_b1 f1_0 V1 hch0) (lenOf pd_14 rfl) (H d7_9) (pc' := 12) rfl rfl (by decide) (W := 0) (Nat.le_of_eq rfl) (by decide) (by decide) (by decide) ?_
  intro T2 v2 L2 X2 hQ2
  obtain ⟨rfl, Nq2, Kq2, Aq2⟩ := hQ2
  have N2 := Fr.app (Fr.nil h0.size) Nq2
  have K2 : Keep h0 T2.heap [] := K1.trans Kq2 (allS (Or.inr sz_b1) all0)
  refine gStoreI 14 X2 hx (H d7_12) (l' := #[.val (.ref x), .val (.int (0 : Int32)), .val (.int (1 : Int32)), .val (.ref b1), .val (.int (1 : Int32)), .unset]) rfl rfl ?_
  refine gLoadI 16 X2 hx (H d7_14) rfl rfl ?_
  refine gLoadIN 17 X2 hx (H d7_16) rfl rfl ?_
  refine gIcmpEqT X2 hx (H d7_17) (pc' := 57) (by decide) (by decide) (pn := 20) rfl (fun (c17 : (1 : Int) = (1 : Int)) => ?_) (fun (c17 : ¬ (1 : Int) = (1 : Int)) => ?_)
  · refine gLoadAN 58 X2 hx (H d7_57) rfl rfl rfl ?_
    exact gRetA X2 hx hlk hret rfl rfl (H d7_58) (by decide) (by decide) (⟨b1, _, rfl, sz_b1, N2, K2, Aq2⟩)
  · exact absurd c17 (by decide)
theorem d6_0 : decode jdk_52_method_15_code 0 = .ok (.iload_n 1, 1) := by decide +kernel
theorem d6_1 : decode jdk_52_method_15_code 1 = .ok (.aload_n 0, 1) := by decide +kernel
theorem d6_2 : decode jdk_52_method_15_code 2 = .ok (.arraylength, 1) := by decide +kernel
theorem d6_3 : decode jdk_52_method_15_code 3 = .ok (.isub, 1) := by decide +kernel
theorem d6_4 : decode jdk_52_method_15_code 4 = .ok (.bipush 31, 2) := by decide +kernel
theorem d6_6 : decode jdk_52_method_15_code 6 = .ok (.iushr, 1) := by decide +kernel
theorem d6_7 : decode jdk_52_method_15_code 7 = .ok (.i2b, 1) := by decide +kernel
theorem d6_8 : decode jdk_52_method_15_code 8 = .ok (.ireturn, 1) := by decide +kernel
abbrev mn13 : MethodName := ⟨"java/lang/StringUTF16", "coderFromArrayLen", "([BI)B"⟩
theorem c_cfal_1 (l : Launch) (Z : State) (a0 : Array Value) (hw : ∀ d ∈ tables_1, d.before a0 Z = true) (t : Addr) (ck : ClassId) (ch0 : Int32) (h0 : Heap) (A : sA Z h0 t ck 1 [by8 ch0]) :
    Ctr l Z mn13 jdk_52_method_15_code 2 (some .byte) [] ⟨0, 0, 0, 0⟩ #[(.ref t), (.int (1 : Int32))] h0 (Just h0 (.int 0)) := by
  refine Ctr.of (plainFor_of_name pn_5) ?_
  intro p e s m below meth c s₁ hx H hml hret hown hnm hZ hlk X0 e0
  refine Goes.cast (show entryFrame m _ _ = mkF m 0 #[.val (.ref t), .val (.int (1 : Int32))] [] from rfl) ?_
  refine gLoadIN 1 X0 hx (H d6_0) rfl rfl ?_
  refine gLoadAN 2 X0 hx (H d6_1) rfl rfl rfl ?_
  refine gArrLen X0 hx hZ e0 A (H d6_2) (pc' := 3) rfl ?_
  refine gIsub 4 X0 hx (H d6_3) rfl ?_
  show Goes p e below _ s₁ (mkF m 4 #[.val (.ref t), .val (.int (1 : Int32))] [(.int (0 : Int32))])
  refine gBipush 6 X0 hx (v := (31 : Int32)) (H d6_4) rfl rfl ?_
  refine gIushr 7 X0 hx (H d6_6) rfl ?_
  show Goes p e below _ s₁ (mkF m 7 #[.val (.ref t), .val (.int (1 : Int32))] [(.int (0 : Int32))])
  refine gI2b 8 X0 hx (H d6_7) rfl ?_
  show Goes p e below _ s₁ (mkF m 8 #[.val (.ref t), .val (.int (1 : Int32))] [(.int (0 : Int32))])
  exact gRetN X0 hx hlk hret (by simp) (H d6_8) (w := (0 : Int32)) rfl (by decide) (by decide) (⟨rfl, e0, rfl⟩)
theorem d2_27 : decode jdk_42_method_149_code 27 = .ok (.getstatic 38, 3) := by decide +kernel
theorem d2_30 : decode jdk_42_method_149_code 30 = .ok (.ifCond .eq 28, 3) := by decide +kernel
theorem d2_33 : decode jdk_42_method_149_code 33 = .ok (.aload_n 1, 1) := by decide +kernel
theorem d2_34 : decode jdk_42_method_149_code 34 = .ok (.iload_n 2, 1) := by decide +kernel
theorem d2_35 : decode jdk_42_method_149_code 35 = .ok (.iload_n 3, 1) := by decide +kernel
theorem d2_36 : decode jdk_42_method_149_code 36 = .ok (.invokestatic 177, 3) := by decide +kernel
theorem pd_12 : parseMethodDescriptor "([CII)[B" = some ⟨[(.array .char), .int, .int], some (.array .byte)⟩ := by decide +kernel
theorem d2_39 : decode jdk_42_method_149_code 39 = .ok (.astore 5, 2) := by decide +kernel
theorem d2_41 : decode jdk_42_method_149_code 41 = .ok (.aload_n 0, 1) := by decide +kernel
theorem d2_42 : decode jdk_42_method_149_code 42 = .ok (.aload 5, 2) := by decide +kernel
theorem d2_44 : decode jdk_42_method_149_code 44 = .ok (.iload_n 3, 1) := by decide +kernel
theorem d2_45 : decode jdk_42_method_149_code 45 = .ok (.invokestatic 47, 3) := by decide +kernel
theorem pd_9 : parseMethodDescriptor "([BI)B" = some ⟨[(.array .byte), .int], some .byte⟩ := by decide +kernel
theorem d2_48 : decode jdk_42_method_149_code 48 = .ok (.putfield 15, 3) := by decide +kernel
theorem d2_51 : decode jdk_42_method_149_code 51 = .ok (.aload_n 0, 1) := by decide +kernel
theorem d2_52 : decode jdk_42_method_149_code 52 = .ok (.aload 5, 2) := by decide +kernel
theorem d2_54 : decode jdk_42_method_149_code 54 = .ok (.putfield 9, 3) := by decide +kernel
theorem d2_57 : decode jdk_42_method_149_code 57 = .ok (.return_, 1) := by decide +kernel
theorem c_sinit_1v (l : Launch) (Z : State) (a0 : Array Value) (hw : ∀ d ∈ tables_1, d.before a0 Z = true) (a x : Addr) (cx : ClassId) (n0 : Nat) (ch0 : Int32) (h0 : Heap) (hCpt : Cpt Z h0) (ga : n0 ≤ a) (gz : n0 ≤ h0.size) (hax : x ≠ a) (E : sE Z h0 a) (C : sC Z h0 a) (V : Fld Z h0 a "java/lang/String" "value" "[B" .null) (A : Arv Z h0 x cx .char 1 [.int ch0] (.int 0)) (hch0 : rg ch0) :
    Ctr l Z mn10 jdk_42_method_149_code 6 none [] ⟨2, 1, 1, 37⟩ #[(.ref a), (.ref x), (.int (0 : Int32)), (.int (1 : Int32)), .null] h0 (fun v h L => ∃ (t : Addr) (ct : ClassId), v = none ∧ Fr n0 L ∧ Keep h0 h [a] ∧ h0.size ≤ t ∧ sE Z h a ∧ sC Z h a ∧ sV Z h a t ∧ sA Z h t ct 1 [by8 ch0]) := by
  refine Ctr.of (plainFor_of_name pn_3) ?_
  intro p e s m below meth c s₁ hx H hml hret hown hnm hZ hlk X0 e0
  refine Goes.cast (show entryFrame m _ _ = mkF m 0 #[.val (.ref a), .val (.ref x), .val (.int (0 : Int32)), .val (.int (1 : Int32)), .val .null, .unset] [] from rfl) ?_
  have hCpt0 := hCpt
  obtain ⟨cz, SC, hcz⟩ := hCpt0
  refine gLoadAN 1 X0 hx (H d2_0) rfl rfl rfl ?_
  refine gInitO X0 hx hZ hown (ow hw 20 rfl) (ow hw 21 rfl) (ow hw 22 rfl) e0 (by rw [hml]; rfl) (H d2_1) (pc' := 4) rfl (by decide) (W := 0) (Nat.le_of_eq rfl) (by decide) (fun T1 X1 e1 => ?_)
  refine gLoadIN 5 X1 hx (H d2_4) rfl rfl ?_
  refine gIfNeT X1 hx (H d2_5) (pc' := 27) (by decide) (by decide) (pn := 8) rfl (fun (c5 : ¬ (1 : Int) = (0 : Int)) => ?_) (fun (c5 : (1 : Int) = (0 : Int)) => ?_)
  · refine gGetS X1 hx hZ hown (ow hw 23 rfl) Via.refl e1 SC (H d2_27) (pc' := 30) rfl (fun T2 X2 e2 => ?_)
    refine gIfEqT X2 hx (H d2_30) (pc' := 58) (by decide) (by decide) (pn := 33) rfl (fun (c30 : cz.toInt = (0 : Int)) => ?_) (fun (c30 : ¬ cz.toInt = (0 : Int)) => ?_)
    · exact absurd c30 hcz
    · refine gLoadAN 34 X2 hx (H d2_33) rfl rfl rfl ?_
      refine gLoadIN 35 X2 hx (H d2_34) rfl rfl ?_
      refine gLoadIN 36 X2 hx (H d2_35) rfl rfl ?_
      refine gCallS X2 hx hZ (y := mn14) hown e2 (by rw [hml]; rfl) (ow hw 24 rfl) (ow hw 25 rfl) (ow hw 26 rfl) (ow hw 27 rfl) (by decide) (argsL := [(.ref x), (.int (0 : Int32)), (.int (1 : Int32))]) (st := []) (c_compress_1 l Z a0 hw x cx ch0 h0 A hch0) (lenOf pd_12 rfl) (H d2_36) (pc' := 39) rfl rfl (by decide) (W := 0) (Nat.le_of_eq rfl) (by decide) (by decide) (by decide) ?_
      intro T3 v3 L3 X3 hQ3
      obtain ⟨t3, ct3, rfl, gt3, Nq3, Kq3, Aq3⟩ := hQ3
      have N3 := Fr.app (Fr.nil n0) (fun y hy => Nat.le_trans gz (Nq3 y hy))
      have K3 : Keep h0 T3.heap [a] := (Keep.refl h0 [a]).trans Kq3 all0
      have f3_0 := own_sta_keep SC Kq3 ns0
      have f3_1 := E.keep Kq3
      have f3_2 := C.keep Kq3 nin0
      have f3_3 := V.keep Kq3 nin0
      have nt3 : t3 ≠ a := Ne.symm (Nat.ne_of_lt (Nat.lt_of_lt_of_le E.lt gt3))
      refine gStoreA 41 X3 hx (H d2_39) (l' := #[.val (.ref a), .val (.ref x), .val (.int (0 : Int32)), .val (.int (1 : Int32)), .val .null, .val (.ref t3)]) rfl rfl rfl ?_
      refine gLoadAN 42 X3 hx (H d2_41) rfl rfl rfl ?_
      refine gLoadA 44 X3 hx (H d2_42) rfl rfl rfl ?_
      refine gLoadIN 45 X3 hx (H d2_44) rfl rfl ?_
      refine gCallSJ X3 hx hZ (y := mn13) hown rfl (by rw [hml]; rfl) (ow hw 32 rfl) (ow hw 33 rfl) (ow hw 26 rfl) (ow hw 34 rfl) (by decide) (argsL := [(.ref t3), (.int (1 : Int32))]) (st := [(.ref a)]) (c_cfal_1 l Z a0 hw t3 ct3 ch0 _ Aq3) (lenOf pd_9 rfl) (H d2_45) (pc' := 48) rfl rfl rfl rfl (by decide) (W := 1) (Nat.le_of_eq rfl) (by decide) (by decide) (by decide) ?_
      intro T4 X4 e4
      refine gPutF X4 hx hZ hown (ow hw 35 rfl) Via.refl e4 f3_2 f3_1 (Or.inr ⟨(ow hw 36 rfl), rfl, hnm⟩) (ow hw 10 rfl) (ty := .byte) (by decide) rfl rfl (H d2_48) (pc' := 51) rfl (fun T5 h5 X5 e5 W5 => ?_)
      have f5_0 := f3_0.wr W5
      have f5_1 := f3_1.wr W5
      have f5_2 := f3_2.same W5
      have f5_3 := f3_3.other W5 (Or.inr (slot_ne (Or.inr (ow hw 38 rfl)) (Or.inr (ow hw 36 rfl)) (by decide) (t := (.array .byte)) (t' := .byte) (by decide) (by decide)))
      have f5_4 := Aq3.other W5 nt3
      have zs5 : h0.size ≤ h5.size := by rw [W5.size]; exact Kq3.1
      have N5 := Fr.snoc X5 N3 ga
      have K5 : Keep h0 h5 [a] := K3.wr W5 (Or.inl (by simp))
      refine gLoadAN 52 X5 hx (H d2_51) rfl rfl rfl ?_
      refine gLoadA 54 X5 hx (H d2_52) rfl rfl rfl ?_
      refine gPutF X5 hx hZ hown (ow hw 37 rfl) Via.refl e5 f5_3 f5_1 (Or.inr ⟨(ow hw 38 rfl), rfl, hnm⟩) (ow hw 10 rfl) (ty := (.array .byte)) (by decide) rfl rfl (H d2_54) (pc' := 57) rfl (fun T6 h6 X6 e6 W6 => ?_)
      have f6_0 := f5_0.wr W6
      have f6_1 := f5_1.wr W6
      have f6_2 := f5_2.other W6 (Or.inr (slot_ne (Or.inr (ow hw 36 rfl)) (Or.inr (ow hw 38 rfl)) (by decide) (t := .byte) (t' := (.array .byte)) (by decide) (by decide)))
      have f6_3 := f5_3.same W6
      have f6_4 := f5_4.other W6 nt3
      have zs6 : h0.size ≤ h6.size := by rw [W6.size]; exact zs5
      have N6 := Fr.snoc X6 N5 ga
      have K6 : Keep h0 h6 [a] := K5.wr W6 (Or.inl (by simp))
      exact gRetV X6 hx hlk hret (H d2_57) (by decide) (by decide) (⟨t3, ct3, rfl, N6, by rw [e6]; exact K6, gt3, by rw [e6]; exact f6_1, by rw [e6]; exact f6_2, by rw [e6]; exact f6_3, by rw [e6]; exact f6_4⟩)
  · exact absurd c5 (by decide)
theorem c_sinit_1 (l : Launch) (Z : State) (a0 : Array Value) (hw : ∀ d ∈ tables_1, d.before a0 Z = true) (a x : Addr) (cx : ClassId) (n0 : Nat) (ch0 : Int32) (h0 : Heap) (hCpt : Cpt Z h0) (ga : n0 ≤ a) (gz : n0 ≤ h0.size) (hax : x ≠ a) (E : sE Z h0 a) (C : sC Z h0 a) (V : Fld Z h0 a "java/lang/String" "value" "[B" .null) (A : Arv Z h0 x cx .char 1 [.int ch0] (.int 0)) (hch0 : rg ch0) :
    Ctr l Z mn9 jdk_42_method_3_code 2 none [] ⟨3, 1, 1, 54⟩ #[(.ref a), (.ref x)] h0 (fun v h L => ∃ (t : Addr) (ct : ClassId), v = none ∧ Fr n0 L ∧ Keep h0 h [a] ∧ h0.size ≤ t ∧ sE Z h a ∧ sC Z h a ∧ sV Z h a t ∧ sA Z h t ct 1 [by8 ch0]) := by
  refine Ctr.of (plainFor_of_name pn_3) ?_
  intro p e s m below meth c s₁ hx H hml hret hown hnm hZ hlk X0 e0
  refine Goes.cast (show entryFrame m _ _ = mkF m 0 #[.val (.ref a), .val (.ref x)] [] from rfl) ?_
  refine gLoadAN 1 X0 hx (H d3_0) rfl rfl rfl ?_
  refine gLoadAN 2 X0 hx (H d3_1) rfl rfl rfl ?_
  refine gIconst 3 X0 hx (v := (0 : Int32)) (H d3_2) rfl rfl ?_
  refine gLoadAN 4 X0 hx (H d3_3) rfl rfl rfl ?_
  refine gArrLen X0 hx hZ e0 A (H d3_4) (pc' := 5) rfl ?_
  refine gNull 6 X0 hx (H d3_5) rfl ?_
  refine gCallI X0 hx hZ (y := mn10) rfl hown e0 (by rw [hml]; rfl) (ow hw 16 rfl) (ow hw 17 rfl) (ow hw 11 rfl) (ow hw 19 rfl) (by decide) (argsL := [(.ref x), (.int (0 : Int32)), (.int (1 : Int32)), .null]) (st := []) (c_sinit_1v l Z a0 hw a x cx n0 ch0 h0 hCpt ga gz hax E C V A hch0) (lenOf pd_13 rfl) (H d3_6) (pc' := 9) rfl rfl (by decide) (W := 0) (Nat.le_of_eq rfl) (by decide) (by decide) (by decide) ?_
  intro T1 v1 L1 X1 hQ1
  obtain ⟨t, ct, rfl, Nq, Kq, gt, Eq, Cq, Vq, Aq⟩ := hQ1
  exact gRetV X1 hx hlk hret (H d3_9) (by decide) (by decide) (⟨t, ct, rfl, Nq, Kq, gt, Eq, Cq, Vq, Aq⟩)
theorem c_compress_2i (l : Launch) (Z : State) (a0 : Array Value) (hw : ∀ d ∈ tables_1, d.before a0 Z = true) (x t : Addr) (cx ct : ClassId) (n0 : Nat) (ch0 ch1 : Int32) (h0 : Heap) (gt : n0 ≤ t) (hne : x ≠ t) (A : Arv Z h0 x cx .char 2 [.int ch0, .int ch1] (.int 0)) (B : Arv Z h0 t ct .byte 2 [.int 0, .int 0] (.int 0)) (hch0 : rg ch0) (hch1 : rg ch1) :
    Ctr l Z mn15 jdk_52_method_21_code 7 (some .int) [] ⟨0, 0, 0, 0⟩ #[(.ref x), (.int (0 : Int32)), (.ref t), (.int (0 : Int32)), (.int (2 : Int32))] h0 (fun v h L => v = some (.int 2) ∧ Fr n0 L ∧ Keep h0 h [t] ∧ sA Z h t ct 2 [by8 ch0, by8 ch1]) := by
  refine Ctr.of (plainFor_of_name pn_5) ?_
  intro p e s m below meth c s₁ hx H hml hret hown hnm hZ hlk X0 e0
  refine Goes.cast (show entryFrame m _ _ = mkF m 0 #[.val (.ref x), .val (.int (0 : Int32)), .val (.ref t), .val (.int (0 : Int32)), .val (.int (2 : Int32)), .unset, .unset] [] from rfl) ?_
  refine gIconst 1 X0 hx (v := (0 : Int32)) (H d8_0) rfl rfl ?_
  refine gStoreI 3 X0 hx (H d8_1) (l' := #[.val (.ref x), .val (.int (0 : Int32)), .val (.ref t), .val (.int (0 : Int32)), .val (.int (2 : Int32)), .val (.int (0 : Int32)), .unset]) rfl rfl ?_
  refine gLoadI 5 X0 hx (H d8_3) rfl rfl ?_
  refine gLoadI 7 X0 hx (H d8_5) rfl rfl ?_
  refine gIcmpGe X0 hx (H d8_7) (pc' := 44) (by decide) (by decide) (pn := 10) rfl (fun (c7 : (2 : Int) ≤ (0 : Int)) => ?_) (fun (c7 : (0 : Int) < (2 : Int)) => ?_)
  · exact absurd c7 (by decide)
  · refine gLoadAN 11 X0 hx (H d8_10) rfl rfl rfl ?_
    refine gLoadIN 12 X0 hx (H d8_11) rfl rfl ?_
    refine gCaload X0 hx hZ e0 A (j := (0 : Int32)) (v := (.int ch0)) (by decide) (by decide) rfl (H d8_12) (pc' := 13) rfl ?_
    refine gStoreI 15 X0 hx (H d8_13) (l' := #[.val (.ref x), .val (.int (0 : Int32)), .val (.ref t), .val (.int (0 : Int32)), .val (.int (2 : Int32)), .val (.int (0 : Int32)), .val (.int ch0)]) rfl rfl ?_
    refine gLoadI 17 X0 hx (H d8_15) rfl rfl ?_
    refine gSipush 20 X0 hx (v := (255 : Int32)) (H d8_17) rfl rfl ?_
    refine gIcmpLe X0 hx (H d8_20) (pc' := 26) (by decide) (by decide) (pn := 23) rfl (fun (c20 : ch0.toInt ≤ (255 : Int)) => ?_) (fun (c20 : (255 : Int) < ch0.toInt) => ?_)
    · refine gLoadAN 27 X0 hx (H d8_26) rfl rfl rfl ?_
      refine gLoadIN 28 X0 hx (H d8_27) rfl rfl ?_
      refine gLoadI 30 X0 hx (H d8_28) rfl rfl ?_
      refine gI2b 31 X0 hx (H d8_30) rfl ?_
      refine gBastore X0 hx hZ e0 (x := (ch0.toInt8.toInt32)) B (j := (0 : Int32)) (by decide) (by decide) 0 (by decide) (by simp) (H d8_31) (pc' := 32) rfl (fun T1 h1 X1 e1 W1 A1 => ?_)
      have f1_0 := A.other W1 hne
      have zs1 : h0.size ≤ h1.size := by rw [W1.size]; exact (Nat.le_refl _)
      have N1 := Fr.snoc X1 (Fr.nil n0) gt
      have K1 : Keep h0 h1 [t] := (Keep.refl h0 [t]).wr W1 (Or.inl (by simp))
      have V1 : Arv Z h1 t _ .byte (2 : Int32) [(.int (ch0.toInt8.toInt32)), (.int (0 : Int32))] (.int 0) := (by have q := A1; rw [own_nb] at q; exact q)
      refine gIinc X1 hx (v := (1 : Int32)) (H d8_32) (l' := #[.val (.ref x), .val (.int (1 : Int32)), .val (.ref t), .val (.int (0 : Int32)), .val (.int (2 : Int32)), .val (.int (0 : Int32)), .val (.int ch0)]) (pc' := 35) rfl rfl rfl rfl ?_
      refine gIinc X1 hx (v := (1 : Int32)) (H d8_35) (l' := #[.val (.ref x), .val (.int (1 : Int32)), .val (.ref t), .val (.int (1 : Int32)), .val (.int (2 : Int32)), .val (.int (0 : Int32)), .val (.int ch0)]) (pc' := 38) rfl rfl rfl rfl ?_
      refine gIinc X1 hx (v := (1 : Int32)) (H d8_38) (l' := #[.val (.ref x), .val (.int (1 : Int32)), .val (.ref t), .val (.int (1 : Int32)), .val (.int (2 : Int32)), .val (.int (1 : Int32)), .val (.int ch0)]) (pc' := 41) rfl rfl rfl rfl ?_
      refine gGoto X1 hx (H d8_41) (pc' := 3) (by decide) (by decide) ?_
      refine gLoadI 5 X1 hx (H d8_3) rfl rfl ?_
      refine gLoadI 7 X1 hx (H d8_5) rfl rfl ?_
      refine gIcmpGe X1 hx (H d8_7) (pc' := 44) (by decide) (by decide) (pn := 10) rfl (fun (c7' : (2 : Int) ≤ (1 : Int)) => ?_) (fun (c7' : (1 : Int) < (2 : Int)) => ?_)
      · exact absurd c7' (by decide)
      · refine gLoadAN 11 X1 hx (H d8_10) rfl rfl rfl ?_
        refine gLoadIN 12 X1 hx (H d8_11) rfl rfl ?_
        refine gCaload X1 hx hZ e1 f1_0 (j := (1 : Int32)) (v := (.int ch1)) (by decide) (by decide) rfl (H d8_12) (pc' := 13) rfl ?_
        refine gStoreI 15 X1 hx (H d8_13) (l' := #[.val (.ref x), .val (.int (1 : Int32)), .val (.ref t), .val (.int (1 : Int32)), .val (.int (2 : Int32)), .val (.int (1 : Int32)), .val (.int ch1)]) rfl rfl ?_
        refine gLoadI 17 X1 hx (H d8_15) rfl rfl ?_
        refine gSipush 20 X1 hx (v := (255 : Int32)) (H d8_17) rfl rfl ?_
        refine gIcmpLe X1 hx (H d8_20) (pc' := 26) (by decide) (by decide) (pn := 23) rfl (fun (c20' : ch1.toInt ≤ (255 : Int)) => ?_) (fun (c20' : (255 : Int) < ch1.toInt) => ?_)
        · refine gLoadAN 27 X1 hx (H d8_26) rfl rfl rfl ?_
          refine gLoadIN 28 X1 hx (H d8_27) rfl rfl ?_
          refine gLoadI 30 X1 hx (H d8_28) rfl rfl ?_
          refine gI2b 31 X1 hx (H d8_30) rfl ?_
          refine gBastore X1 hx hZ e1 (x := (ch1.toInt8.toInt32)) V1 (j := (1 : Int32)) (by decide) (by decide) 1 (by decide) (by simp) (H d8_31) (pc' := 32) rfl (fun T2 h2 X2 e2 W2 A2 => ?_)
          have f2_0 := f1_0.other W2 hne
          have zs2 : h0.size ≤ h2.size := by rw [W2.size]; exact zs1
          have N2 := Fr.snoc X2 N1 gt
          have K2 : Keep h0 h2 [t] := K1.wr W2 (Or.inl (by simp))
          have V2 : Arv Z h2 t _ .byte (2 : Int32) [(.int (ch0.toInt8.toInt32)), (.int (ch1.toInt8.toInt32))] (.int 0) := (by have q := A2; rw [own_nb] at q; exact q)
          refine gIinc X2 hx (v := (1 : Int32)) (H d8_32) (l' := #[.val (.ref x), .val (.int (2 : Int32)), .val (.ref t), .val (.int (1 : Int32)), .val (.int (2 : Int32)), .val (.int (1 : Int32)), .val (.int ch1)]) (pc' := 35) rfl rfl rfl rfl ?_
          refine gIinc X2 hx (v := (1 : Int32)) (H d8_35) (l' := #[.val (.ref x), .val (.int (2 : Int32)), .val (.ref t), .val (.int (2 : Int32)), .val (.int (2 : Int32)), .val (.int (1 : Int32)), .val (.int ch1)]) (pc' := 38) rfl rfl rfl rfl ?_
          refine gIinc X2 hx (v := (1 : Int32)) (H d8_38) (l' := #[.val (.ref x), .val (.int (2 : Int32)), .val (.ref t), .val (.int (2 : Int32)), .val (.int (2 : Int32)), .val (.int (2 : Int32)), .val (.int ch1)]) (pc' := 41) rfl rfl rfl rfl ?_
          refine gGoto X2 hx (H d8_41) (pc' := 3) (by decide) (by decide) ?_
          refine gLoadI 5 X2 hx (H d8_3) rfl rfl ?_
          refine gLoadI 7 X2 hx (H d8_5) rfl rfl ?_
          refine gIcmpGe X2 hx (H d8_7) (pc' := 44) (by decide) (by decide) (pn := 10) rfl (fun (c7'' : (2 : Int) ≤ (2 : Int)) => ?_) (fun (c7'' : (2 : Int) < (2 : Int)) => ?_)
          · refine gLoadI 46 X2 hx (H d8_44) rfl rfl ?_
            exact gRetI X2 hx hlk hret (H d8_46) (by decide) (by decide) (⟨rfl, N2, by rw [e2]; exact K2, by rw [e2]; exact V2⟩)
          · exact absurd c7'' (by decide)
        · exact absurd c20' (by omega)
    · exact absurd c20 (by omega)
theorem c_compress_2 (l : Launch) (Z : State) (a0 : Array Value) (hw : ∀ d ∈ tables_1, d.before a0 Z = true) (x : Addr) (cx : ClassId) (ch0 ch1 : Int32) (h0 : Heap) (A : Arv Z h0 x cx .char 2 [.int ch0, .int ch1] (.int 0)) (hch0 : rg ch0) (hch1 : rg ch1) :
    Ctr l Z mn14 jdk_52_method_16_code 6 (some (.array .byte)) [] ⟨1, 1, 2, 18⟩ #[(.ref x), (.int (0 : Int32)), (.int (2 : Int32))] h0 (fun v h L => ∃ (t : Addr) (ct : ClassId), v = some (.ref t) ∧ h0.size ≤ t ∧ Fr h0.size L ∧ Keep h0 h [] ∧ sA Z h t ct 2 [by8 ch0, by8 ch1]) := by
  refine Ctr.of (plainFor_of_name pn_5) ?_
  intro p e s m below meth c s₁ hx H hml hret hown hnm hZ hlk X0 e0
  refine Goes.cast (show entryFrame m _ _ = mkF m 0 #[.val (.ref x), .val (.int (0 : Int32)), .val (.int (2 : Int32)), .unset, .unset, .unset] [] from rfl) ?_
  refine gLoadIN 1 X0 hx (H d7_0) rfl rfl ?_
  refine gNewP X0 hx hZ (ow hw 28 rfl) e0 (n := (2 : Int32)) (H d7_1) (by decide) (cap := 2) (by decide) (by decide) (by decide) (by decide) 2 (pc' := 3) rfl (fun T1 h1 b1 ck1 X1 e1 g1 E1 A1 => ?_)
  have ne_x_b1 : x ≠ b1 := Nat.ne_of_lt (Nat.lt_of_lt_of_eq A.lt g1.symm)
  have f1_0 := A.ext E1
  have sz_b1 : h0.size ≤ b1 := Nat.le_trans (Nat.le_refl _) (Nat.le_of_eq g1.symm)
  have zs1 : h0.size ≤ h1.size := Nat.le_trans (Nat.le_refl _) E1.1
  have K1 : Keep h0 h1 [] := (Keep.refl h0 []).ext E1
  have V1 : Arv Z h1 b1 ck1 .byte (2 : Int32) [(.int (0 : Int32)), (.int (0 : Int32))] (.int (0 : Int32)) := A1
  refine gStoreAN 4 X1 hx (H d7_3) (l' := #[.val (.ref x), .val (.int (0 : Int32)), .val (.int (2 : Int32)), .val (.ref b1), .unset, .unset]) rfl rfl rfl ?_
  refine gLoadAN 5 X1 hx (H d7_4) rfl rfl rfl ?_
  refine gLoadIN 6 X1 hx (H d7_5) rfl rfl ?_
  refine gLoadAN 7 X1 hx (H d7_6) rfl rfl rfl ?_
  refine gIconst 8 X1 hx (v := (0 : Int32)) (H d7_7) rfl rfl ?_
  refine gLoadIN 9 X1 hx (H d7_8) rfl rfl ?_
  refine gCallS X1 hx hZ (y := mn15) hown e1 (by rw [hml]; rfl) (ow hw 29 rfl) (ow hw 30 rfl) (ow hw 26 rfl) (ow hw 31 rfl) (by decide) (argsL := [(.ref x), (.int (0 : Int32)), (.ref b1), (.int (0 : Int32)), (.int (2 : Int32))]) (st := []) (c_compress_2i l Z a0 hw x b1 cx ck1 h0.size ch0 ch1 h1 sz_b1 ne_x_b1 f1_0 V1 hch0 hch1) (lenOf pd_14 rfl) (H d7_9) (pc' := 12) rfl rfl (by decide) (W := 0) (Nat.le_of_eq rfl) (by decide) (by decide) (by decide) ?_
  intro T2 v2 L2 X2 hQ2
  obtain ⟨rfl, Nq2, Kq2, Aq2⟩ := hQ2
  have N2 := Fr.app (Fr.nil h0.size) Nq2
  have K2 : Keep h0 T2.heap [] := K1.trans Kq2 (allS (Or.inr sz_b1) all0)
  refine gStoreI 14 X2 hx (H d7_12) (l' := #[.val (.ref x), .val (.int (0 : Int32)), .val (.int (2 : Int32)), .val (.ref b1), .val (.int (2 : Int32)), .unset]) rfl rfl ?_
  refine gLoadI 16 X2 hx (H d7_14) rfl rfl ?_
  refine gLoadIN 17 X2 hx (H d7_16) rfl rfl ?_
  refine gIcmpEqT X2 hx (H d7_17) (pc' := 57) (by decide) (by decide) (pn := 20) rfl (fun (c17 : (2 : Int) = (2 : Int)) => ?_) (fun (c17 : ¬ (2 : Int) = (2 : Int)) => ?_)
  · refine gLoadAN 58 X2 hx (H d7_57) rfl rfl rfl ?_
    exact gRetA X2 hx hlk hret rfl rfl (H d7_58) (by decide) (by decide) (⟨b1, _, rfl, sz_b1, N2, K2, Aq2⟩)
  · exact absurd c17 (by decide)
theorem c_cfal_2 (l : Launch) (Z : State) (a0 : Array Value) (hw : ∀ d ∈ tables_1, d.before a0 Z = true) (t : Addr) (ck : ClassId) (ch0 ch1 : Int32) (h0 : Heap) (A : sA Z h0 t ck 2 [by8 ch0, by8 ch1]) :
    Ctr l Z mn13 jdk_52_method_15_code 2 (some .byte) [] ⟨0, 0, 0, 0⟩ #[(.ref t), (.int (2 : Int32))] h0 (Just h0 (.int 0)) := by
  refine Ctr.of (plainFor_of_name pn_5) ?_
  intro p e s m below meth c s₁ hx H hml hret hown hnm hZ hlk X0 e0
  refine Goes.cast (show entryFrame m _ _ = mkF m 0 #[.val (.ref t), .val (.int (2 : Int32))] [] from rfl) ?_
  refine gLoadIN 1 X0 hx (H d6_0) rfl rfl ?_
  refine gLoadAN 2 X0 hx (H d6_1) rfl rfl rfl ?_
  refine gArrLen X0 hx hZ e0 A (H d6_2) (pc' := 3) rfl ?_
  refine gIsub 4 X0 hx (H d6_3) rfl ?_
  show Goes p e below _ s₁ (mkF m 4 #[.val (.ref t), .val (.int (2 : Int32))] [(.int (0 : Int32))])
  refine gBipush 6 X0 hx (v := (31 : Int32)) (H d6_4) rfl rfl ?_
  refine gIushr 7 X0 hx (H d6_6) rfl ?_
  show Goes p e below _ s₁ (mkF m 7 #[.val (.ref t), .val (.int (2 : Int32))] [(.int (0 : Int32))])
  refine gI2b 8 X0 hx (H d6_7) rfl ?_
  show Goes p e below _ s₁ (mkF m 8 #[.val (.ref t), .val (.int (2 : Int32))] [(.int (0 : Int32))])
  exact gRetN X0 hx hlk hret (by simp) (H d6_8) (w := (0 : Int32)) rfl (by decide) (by decide) (⟨rfl, e0, rfl⟩)
theorem c_sinit_2v (l : Launch) (Z : State) (a0 : Array Value) (hw : ∀ d ∈ tables_1, d.before a0 Z = true) (a x : Addr) (cx : ClassId) (n0 : Nat) (ch0 ch1 : Int32) (h0 : Heap) (hCpt : Cpt Z h0) (ga : n0 ≤ a) (gz : n0 ≤ h0.size) (hax : x ≠ a) (E : sE Z h0 a) (C : sC Z h0 a) (V : Fld Z h0 a "java/lang/String" "value" "[B" .null) (A : Arv Z h0 x cx .char 2 [.int ch0, .int ch1] (.int 0)) (hch0 : rg ch0) (hch1 : rg ch1) :
    Ctr l Z mn10 jdk_42_method_149_code 6 none [] ⟨2, 1, 2, 37⟩ #[(.ref a), (.ref x), (.int (0 : Int32)), (.int (2 : Int32)), .null] h0 (fun v h L => ∃ (t : Addr) (ct : ClassId), v = none ∧ Fr n0 L ∧ Keep h0 h [a] ∧ h0.size ≤ t ∧ sE Z h a ∧ sC Z h a ∧ sV Z h a t ∧ sA Z h t ct 2 [by8 ch0, by8 ch1]) := by
  refine Ctr.of (plainFor_of_name pn_3) ?_
  intro p e s m below meth c s₁ hx H hml hret hown hnm hZ hlk X0 e0
  refine Goes.cast (show entryFrame m _ _ = mkF m 0 #[.val (.ref a), .val (.ref x), .val (.int (0 : Int32)), .val (.int (2 : Int32)), .val .null, .unset] [] from rfl) ?_
  have hCpt0 := hCpt
  obtain ⟨cz, SC, hcz⟩ := hCpt0
  refine gLoadAN 1 X0 hx (H d2_0) rfl rfl rfl ?_
  refine gInitO X0 hx hZ hown (ow hw 20 rfl) (ow hw 21 rfl) (ow hw 22 rfl) e0 (by rw [hml]; rfl) (H d2_1) (pc' := 4) rfl (by decide) (W := 0) (Nat.le_of_eq rfl) (by decide) (fun T1 X1 e1 => ?_)
  refine gLoadIN 5 X1 hx (H d2_4) rfl rfl ?_
  refine gIfNeT X1 hx (H d2_5) (pc' := 27) (by decide) (by decide) (pn := 8) rfl (fun (c5 : ¬ (2 : Int) = (0 : Int)) => ?_) (fun (c5 : (2 : Int) = (0 : Int)) => ?_)
  · refine gGetS X1 hx hZ hown (ow hw 23 rfl) Via.refl e1 SC (H d2_27) (pc' := 30) rfl (fun T2 X2 e2 => ?_)
    refine gIfEqT X2 hx (H d2_30) (pc' := 58) (by decide) (by decide) (pn := 33) rfl (fun (c30 : cz.toInt = (0 : Int)) => ?_) (fun (c30 : ¬ cz.toInt = (0 : Int)) => ?_)
    · exact absurd c30 hcz
    · refine gLoadAN 34 X2 hx (H d2_33) rfl rfl rfl ?_
      refine gLoadIN 35 X2 hx (H d2_34) rfl rfl ?_
      refine gLoadIN 36 X2 hx (H d2_35) rfl rfl ?_
      refine gCallS X2 hx hZ (y := mn14) hown e2 (by rw [hml]; rfl) (ow hw 24 rfl) (ow hw 25 rfl) (ow hw 26 rfl) (ow hw 27 rfl) (by decide) (argsL := [(.ref x), (.int (0 : Int32)), (.int (2 : Int32))]) (st := []) (c_compress_2 l Z a0 hw x cx ch0 ch1 h0 A hch0 hch1) (lenOf pd_12 rfl) (H d2_36) (pc' := 39) rfl rfl (by decide) (W := 0) (Nat.le_of_eq rfl) (by decide) (by decide) (by decide) ?_
      intro T3 v3 L3 X3 hQ3
      obtain ⟨t3, ct3, rfl, gt3, Nq3, Kq3, Aq3⟩ := hQ3
      have N3 := Fr.app (Fr.nil n0) (fun y hy => Nat.le_trans gz (Nq3 y hy))
      have K3 : Keep h0 T3.heap [a] := (Keep.refl h0 [a]).trans Kq3 all0
      have f3_0 := own_sta_keep SC Kq3 ns0
      have f3_1 := E.keep Kq3
      have f3_2 := C.keep Kq3 nin0
      have f3_3 := V.keep Kq3 nin0
      have nt3 : t3 ≠ a := Ne.symm (Nat.ne_of_lt (Nat.lt_of_lt_of_le E.lt gt3))
      refine gStoreA 41 X3 hx (H d2_39) (l' := #[.val (.ref a), .val (.ref x), .val (.int (0 : Int32)), .val (.int (2 : Int32)), .val .null, .val (.ref t3)]) rfl rfl rfl ?_
      refine gLoadAN 42 X3 hx (H d2_41) rfl rfl rfl ?_
      refine gLoadA 44 X3 hx (H d2_42) rfl rfl rfl ?_
      refine gLoadIN 45 X3 hx (H d2_44) rfl rfl ?_
      refine gCallSJ X3 hx hZ (y := mn13) hown rfl (by rw [hml]; rfl) (ow hw 32 rfl) (ow hw 33 rfl) (ow hw 26 rfl) (ow hw 34 rfl) (by decide) (argsL := [(.ref t3), (.int (2 : Int32))]) (st := [(.ref a)]) (c_cfal_2 l Z a0 hw t3 ct3 ch0 ch1 _ Aq3) (lenOf pd_9 rfl) (H d2_45) (pc' := 48) rfl rfl rfl rfl (by decide) (W := 1) (Nat.le_of_eq rfl) (by decide) (by decide) (by decide) ?_
      intro T4 X4 e4
      refine gPutF X4 hx hZ hown (ow hw 35 rfl) Via.refl e4 f3_2 f3_1 (Or.inr ⟨(ow hw 36 rfl), rfl, hnm⟩) (ow hw 10 rfl) (ty := .byte) (by decide) rfl rfl (H d2_48) (pc' := 51) rfl (fun T5 h5 X5 e5 W5 => ?_)
      have f5_0 := f3_0.wr W5
      have f5_1 := f3_1.wr W5
      have f5_2 := f3_2.same W5
      have f5_3 := f3_3.other W5 (Or.inr (slot_ne (Or.inr (ow hw 38 rfl)) (Or.inr (ow hw 36 rfl)) (by decide) (t := (.array .byte)) (t' := .byte) (by decide) (by decide)))
      have f5_4 := Aq3.other W5 nt3
      have zs5 : h0.size ≤ h5.size := by rw [W5.size]; exact Kq3.1
      have N5 := Fr.snoc X5 N3 ga
      have K5 : Keep h0 h5 [a] := K3.wr W5 (Or.inl (by simp))
      refine gLoadAN 52 X5 hx (H d2_51) rfl rfl rfl ?_
      refine gLoadA 54 X5 hx (H d2_52) rfl rfl rfl ?_
      refine gPutF X5 hx hZ hown (ow hw 37 rfl) Via.refl e5 f5_3 f5_1 (Or.inr ⟨(ow hw 38 rfl), rfl, hnm⟩) (ow hw 10 rfl) (ty := (.array .byte)) (by decide) rfl rfl (H d2_54) (pc' := 57) rfl (fun T6 h6 X6 e6 W6 => ?_)
      have f6_0 := f5_0.wr W6
      have f6_1 := f5_1.wr W6
      have f6_2 := f5_2.other W6 (Or.inr (slot_ne (Or.inr (ow hw 36 rfl)) (Or.inr (ow hw 38 rfl)) (by decide) (t := .byte) (t' := (.array .byte)) (by decide) (by decide)))
      have f6_3 := f5_3.same W6
      have f6_4 := f5_4.other W6 nt3
      have zs6 : h0.size ≤ h6.size := by rw [W6.size]; exact zs5
      have N6 := Fr.snoc X6 N5 ga
      have K6 : Keep h0 h6 [a] := K5.wr W6 (Or.inl (by simp))
      exact gRetV X6 hx hlk hret (H d2_57) (by decide) (by decide) (⟨t3, ct3, rfl, N6, by rw [e6]; exact K6, gt3, by rw [e6]; exact f6_1, by rw [e6]; exact f6_2, by rw [e6]; exact f6_3, by rw [e6]; exact f6_4⟩)
  · exact absurd c5 (by decide)
theorem c_sinit_2 (l : Launch) (Z : State) (a0 : Array Value) (hw : ∀ d ∈ tables_1, d.before a0 Z = true) (a x : Addr) (cx : ClassId) (n0 : Nat) (ch0 ch1 : Int32) (h0 : Heap) (hCpt : Cpt Z h0) (ga : n0 ≤ a) (gz : n0 ≤ h0.size) (hax : x ≠ a) (E : sE Z h0 a) (C : sC Z h0 a) (V : Fld Z h0 a "java/lang/String" "value" "[B" .null) (A : Arv Z h0 x cx .char 2 [.int ch0, .int ch1] (.int 0)) (hch0 : rg ch0) (hch1 : rg ch1) :
    Ctr l Z mn9 jdk_42_method_3_code 2 none [] ⟨3, 1, 2, 54⟩ #[(.ref a), (.ref x)] h0 (fun v h L => ∃ (t : Addr) (ct : ClassId), v = none ∧ Fr n0 L ∧ Keep h0 h [a] ∧ h0.size ≤ t ∧ sE Z h a ∧ sC Z h a ∧ sV Z h a t ∧ sA Z h t ct 2 [by8 ch0, by8 ch1]) := by
  refine Ctr.of (plainFor_of_name pn_3) ?_
  intro p e s m below meth c s₁ hx H hml hret hown hnm hZ hlk X0 e0
  refine Goes.cast (show entryFrame m _ _ = mkF m 0 #[.val (.ref a), .val (.ref x)] [] from rfl) ?_
  refine gLoadAN 1 X0 hx (H d3_0) rfl rfl rfl ?_
  refine gLoadAN 2 X0 hx (H d3_1) rfl rfl rfl ?_
  refine gIconst 3 X0 hx (v := (0 : Int32)) (H d3_2) rfl rfl ?_
  refine gLoadAN 4 X0 hx (H d3_3) rfl rfl rfl ?_
  refine gArrLen X0 hx hZ e0 A (H d3_4) (pc' := 5) rfl ?_
  refine gNull 6 X0 hx (H d3_5) rfl ?_
  refine gCallI X0 hx hZ (y := mn10) rfl hown e0 (by rw [hml]; rfl) (ow hw 16 rfl) (ow hw 17 rfl) (ow hw 11 rfl) (ow hw 19 rfl) (by decide) (argsL := [(.ref x), (.int (0 : Int32)), (.int (2 : Int32)), .null]) (st := []) (c_sinit_2v l Z a0 hw a x cx n0 ch0 ch1 h0 hCpt ga gz hax E C V A hch0 hch1) (lenOf pd_13 rfl) (H d3_6) (pc' := 9) rfl rfl (by decide) (W := 0) (Nat.le_of_eq rfl) (by decide) (by decide) (by decide) ?_
  intro T1 v1 L1 X1 hQ1
  obtain ⟨t, ct, rfl, Nq, Kq, gt, Eq, Cq, Vq, Aq⟩ := hQ1
  exact gRetV X1 hx hlk hret (H d3_9) (by decide) (by decide) (⟨t, ct, rfl, Nq, Kq, gt, Eq, Cq, Vq, Aq⟩)
theorem c_compress_3i (l : Launch) (Z : State) (a0 : Array Value) (hw : ∀ d ∈ tables_1, d.before a0 Z = true) (x t : Addr) (cx ct : ClassId) (n0 : Nat) (ch0 ch1 ch2 : Int32) (h0 : Heap) (gt : n0 ≤ t) (hne : x ≠ t) (A : Arv Z h0 x cx .char 3 [.int ch0, .int ch1, .int ch2] (.int 0)) (B : Arv Z h0 t ct .byte 3 [.int 0, .int 0, .int 0] (.int 0)) (hch0 : rg ch0) (hch1 : rg ch1) (hch2 : rg ch2) :
    Ctr l Z mn15 jdk_52_method_21_code 7 (some .int) [] ⟨0, 0, 0, 0⟩ #[(.ref x), (.int (0 : Int32)), (.ref t), (.int (0 : Int32)), (.int (3 : Int32))] h0 (fun v h L => v = some (.int 3) ∧ Fr n0 L ∧ Keep h0 h [t] ∧ sA Z h t ct 3 [by8 ch0, by8 ch1, by8 ch2]) := by
  refine Ctr.of (plainFor_of_name pn_5) ?_
  intro p e s m below meth c s₁ hx H hml hret hown hnm hZ hlk X0 e0
  refine Goes.cast (show entryFrame m _ _ = mkF m 0 #[.val (.ref x), .val (.int (0 : Int32)), .val (.ref t), .val (.int (0 : Int32)), .val (.int (3 : Int32)), .unset, .unset] [] from rfl) ?_
  refine gIconst 1 X0 hx (v := (0 : Int32)) (H d8_0) rfl rfl ?_
  refine gStoreI 3 X0 hx (H d8_1) (l' := #[.val (.ref x), .val (.int (0 : Int32)), .val (.ref t), .val (.int (0 : Int32)), .val (.int (3 : Int32)), .val (.int (0 : Int32)), .unset]) rfl rfl ?_
  refine gLoadI 5 X0 hx (H d8_3) rfl rfl ?_
  refine gLoadI 7 X0 hx (H d8_5) rfl rfl ?_
  refine gIcmpGe X0 hx (H d8_7) (pc' := 44) (by decide) (by decide) (pn := 10) rfl (fun (c7 : (3 : Int) ≤ (0 : Int)) => ?_) (fun (c7 : (0 : Int) < (3 : Int)) => ?_)
  · exact absurd c7 (by decide)
  · refine gLoadAN 11 X0 hx (H d8_10) rfl rfl rfl ?_
    refine gLoadIN 12 X0 hx (H d8_11) rfl rfl ?_
    refine gCaload X0 hx hZ e0 A (j := (0 : Int32)) (v := (.int ch0)) (by decide) (by decide) rfl (H d8_12) (pc' := 13) rfl ?_
    refine gStoreI 15 X0 hx (H d8_13) (l' := #[.val (.ref x), .val (.int (0 : Int32)), .val (.ref t), .val (.int (0 : Int32)), .val (.int (3 : Int32)), .val (.int (0 : Int32)), .val (.int ch0)]) rfl rfl ?_
    refine gLoadI 17 X0 hx (H d8_15) rfl rfl ?_
    refine gSipush 20 X0 hx (v := (255 : Int32)) (H d8_17) rfl rfl ?_
    refine gIcmpLe X0 hx (H d8_20) (pc' := 26) (by decide) (by decide) (pn := 23) rfl (fun (c20 : ch0.toInt ≤ (255 : Int)) => ?_) (fun (c20 : (255 : Int) < ch0.toInt) => ?_)
    · refine gLoadAN 27 X0 hx (H d8_26) rfl rfl rfl ?_
      refine gLoadIN 28 X0 hx (H d8_27) rfl rfl ?_
      refine gLoadI 30 X0 hx (H d8_28) rfl rfl ?_
      refine gI2b 31 X0 hx (H d8_30) rfl ?_
      refine gBastore X0 hx hZ e0 (x := (ch0.toInt8.toInt32)) B (j := (0 : Int32)) (by decide) (by decide) 0 (by decide) (by simp) (H d8_31) (pc' := 32) rfl (fun T1 h1 X1 e1 W1 A1 => ?_)
      have f1_0 := A.other W1 hne
      have zs1 : h0.size ≤ h1.size := by rw [W1.size]; exact (Nat.le_refl _)
      have N1 := Fr.snoc X1 (Fr.nil n0) gt
      have K1 : Keep h0 h1 [t] := (Keep.refl h0 [t]).wr W1 (Or.inl (by simp))
      have V1 : Arv Z h1 t _ .byte (3 : Int32) [(.int (ch0.toInt8.toInt32)), (.int (0 : Int32)), (.int (0 : Int32))] (.int 0) := (by have q := A1; rw [own_nb] at q; exact q)
      refine gIinc X1 hx (v := (1 : Int32)) (H d8_32) (l' := #[.val (.ref x), .val (.int (1 : Int32)), .val (.ref t), .val (.int (0 : Int32)), .val (.int (3 : Int32)), .val (.int (0 : Int32)), .val (.int ch0)]) (pc' := 35) rfl rfl rfl rfl ?_
      refine gIinc X1 hx (v := (1 : Int32)) (H d8_35) (l' := #[.val (.ref x), .val (.int (1 : Int32)), .val (.ref t), .val (.int (1 : Int32)), .val (.int (3 : Int32)), .val (.int (0 : Int32)), .val (.int ch0)]) (pc' := 38) rfl rfl rfl rfl ?_
      refine gIinc X1 hx (v := (1 : Int32)) (H d8_38) (l' := #[.val (.ref x), .val (.int (1 : Int32)), .val (.ref t), .val (.int (1 : Int32)), .val (.int (3 : Int32)), .val (.int (1 : Int32)), .val (.int ch0)]) (pc' := 41) rfl rfl rfl rfl ?_
      refine gGoto X1 hx (H d8_41) (pc' := 3) (by decide) (by decide) ?_
      refine gLoadI 5 X1 hx (H d8_3) rfl rfl ?_
      refine gLoadI 7 X1 hx (H d8_5) rfl rfl ?_
      refine gIcmpGe X1 hx (H d8_7) (pc' := 44) (by decide) (by decide) (pn := 10) rfl (fun (c7' : (3 : Int) ≤ (1 : Int)) => ?_) (fun (c7' : (1 : Int) < (3 : Int)) => ?_)
      · exact absurd c7' (by decide)
      · refine gLoadAN 11 X1 hx (H d8_10) rfl rfl rfl ?_
        refine gLoadIN 12 X1 hx (H d8_11) rfl rfl ?_
        refine gCaload X1 hx hZ e1 f1_0 (j := (1 : Int32)) (v := (.int ch1)) (by decide) (by decide) rfl (H d8_12) (pc' := 13) rfl ?_
        refine gStoreI 15 X1 hx (H d8_13) (l' := #[.val (.ref x), .val (.int (1 : Int32)), .val (.ref t), .val (.int (1 : Int32)), .val (.int (3 : Int32)), .val (.int (1 : Int32)), .val (.int ch1)]) rfl rfl ?_
        refine gLoadI 17 X1 hx (H d8_15) rfl rfl ?_
        refine gSipush 20 X1 hx (v := (255 : Int32)) (H d8_17) rfl rfl ?_
        refine gIcmpLe X1 hx (H d8_20) (pc' := 26) (by decide) (by decide) (pn := 23) rfl (fun (c20' : ch1.toInt ≤ (255 : Int)) => ?_) (fun (c20' : (255 : Int) < ch1.toInt) => ?_)
        · refine gLoadAN 27 X1 hx (H d8_26) rfl rfl rfl ?_
          refine gLoadIN 28 X1 hx (H d8_27) rfl rfl ?_
          refine gLoadI 30 X1 hx (H d8_28) rfl rfl ?_
          refine gI2b 31 X1 hx (H d8_30) rfl ?_
          refine gBastore X1 hx hZ e1 (x := (ch1.toInt8.toInt32)) V1 (j := (1 : Int32)) (by decide) (by decide) 1 (by decide) (by simp) (H d8_31) (pc' := 32) rfl (fun T2 h2 X2 e2 W2 A2 => ?_)
          have f2_0 := f1_0.other W2 hne
          have zs2 : h0.size ≤ h2.size := by rw [W2.size]; exact zs1
          have N2 := Fr.snoc X2 N1 gt
          have K2 : Keep h0 h2 [t] := K1.wr W2 (Or.inl (by simp))
          have V2 : Arv Z h2 t _ .byte (3 : Int32) [(.int (ch0.toInt8.toInt32)), (.int (ch1.toInt8.toInt32)), (.int (0 : Int32))] (.int 0) := (by have q := A2; rw [own_nb] at q; exact q)
          refine gIinc X2 hx (v := (1 : Int32)) (H d8_32) (l' := #[.val (.ref x), .val (.int (2 : Int32)), .val (.ref t), .val (.int (1 : Int32)), .val (.int (3 : Int32)), .val (.int (1 : Int32)), .val (.int ch1)]) (pc' := 35) rfl rfl rfl rfl ?_
          refine gIinc X2 hx (v := (1 : Int32)) (H d8_35) (l' := #[.val (.ref x), .val (.int (2 : Int32)), .val (.ref t), .val (.int (2 : Int32)), .val (.int (3 : Int32)), .val (.int (1 : Int32)), .val (.int ch1)]) (pc' := 38) rfl rfl rfl rfl ?_
          refine gIinc X2 hx (v := (1 : Int32)) (H d8_38) (l' := #[.val (.ref x), .val (.int (2 : Int32)), .val (.ref t), .val (.int (2 : Int32)), .val (.int (3 : Int32)), .val (.int (2 : Int32)), .val (.int ch1)]) (pc' := 41) rfl rfl rfl rfl ?_
          refine gGoto X2 hx (H d8_41) (pc' := 3) (by decide) (by decide) ?_
          refine gLoadI 5 X2 hx (H d8_3) rfl rfl ?_
          refine gLoadI 7 X2 hx (H d8_5) rfl rfl ?_
          refine gIcmpGe X2 hx (H d8_7) (pc' := 44) (by decide) (by decide) (pn := 10) rfl (fun (c7'' : (3 : Int) ≤ (2 : Int)) => ?_) (fun (c7'' : (2 : Int) < (3 : Int)) => ?_)
          · exact absurd c7'' (by decide)
          · refine gLoadAN 11 X2 hx (H d8_10) rfl rfl rfl ?_
            refine gLoadIN 12 X2 hx (H d8_11) rfl rfl ?_
            refine gCaload X2 hx hZ e2 f2_0 (j := (2 : Int32)) (v := (.int ch2)) (by decide) (by decide) rfl (H d8_12) (pc' := 13) rfl ?_
            refine gStoreI 15 X2 hx (H d8_13) (l' := #[.val (.ref x), .val (.int (2 : Int32)), .val (.ref t), .val (.int (2 : Int32)), .val (.int (3 : Int32)), .val (.int (2 : Int32)), .val (.int ch2)]) rfl rfl ?_
            refine gLoadI 17 X2 hx (H d8_15) rfl rfl ?_
            refine gSipush 20 X2 hx (v := (255 : Int32)) (H d8_17) rfl rfl ?_
            refine gIcmpLe X2 hx (H d8_20) (pc' := 26) (by decide) (by decide) (pn := 23) rfl (fun (c20'' : ch2.toInt ≤ (255 : Int)) => ?_) (fun (c20'' : (255 : Int) < ch2.toInt) => ?_)
            · refine gLoadAN 27 X2 hx (H d8_26) rfl rfl rfl ?_
              refine gLoadIN 28 X2 hx (H d8_27) rfl rfl ?_
              refine gLoadI 30 X2 hx (H d8_28) rfl rfl ?_
              refine gI2b 31 X2 hx (H d8_30) rfl ?_
              refine gBastore X2 hx hZ e2 (x := (ch2.toInt8.toInt32)) V2 (j := (2 : Int32)) (by decide) (by decide) 2 (by decide) (by simp) (H d8_31) (pc' := 32) rfl (fun T3 h3 X3 e3 W3 A3 => ?_)
              have f3_0 := f2_0.other W3 hne
              have zs3 : h0.size ≤ h3.size := by rw [W3.size]; exact zs2
              have N3 := Fr.snoc X3 N2 gt
              have K3 : Keep h0 h3 [t] := K2.wr W3 (Or.inl (by simp))
              have V3 : Arv Z h3 t _ .byte (3 : Int32) [(.int (ch0.toInt8.toInt32)), (.int (ch1.toInt8.toInt32)), (.int (ch2.toInt8.toInt32))] (.int 0) := (by have q := A3; rw [own_nb] at q; exact q)
              refine gIinc X3 hx (v := (1 : Int32)) (H d8_32) (l' := #[.val (.ref x), .val (.int (3 : Int32)), .val (.ref t), .val (.int (2 : Int32)), .val (.int (3 : Int32)), .val (.int (2 : Int32)), .val (.int ch2)]) (pc' := 35) rfl rfl rfl rfl ?_
              refine gIinc X3 hx (v := (1 : Int32)) (H d8_35) (l' := #[.val (.ref x), .val (.int (3 : Int32)), .val (.ref t), .val (.int (3 : Int32)), .val (.int (3 : Int32)), .val (.int (2 : Int32)), .val (.int ch2)]) (pc' := 38) rfl rfl rfl rfl ?_
              refine gIinc X3 hx (v := (1 : Int32)) (H d8_38) (l' := #[.val (.ref x), .val (.int (3 : Int32)), .val (.ref t), .val (.int (3 : Int32)), .val (.int (3 : Int32)), .val (.int (3 : Int32)), .val (.int ch2)]) (pc' := 41) rfl rfl rfl rfl ?_
              refine gGoto X3 hx (H d8_41) (pc' := 3) (by decide) (by decide) ?_
              refine gLoadI 5 X3 hx (H d8_3) rfl rfl ?_
              refine gLoadI 7 X3 hx (H d8_5) rfl rfl ?_
              refine gIcmpGe X3 hx (H d8_7) (pc' := 44) (by decide) (by decide) (pn := 10) rfl (fun (c7''' : (3 : Int) ≤ (3 : Int)) => ?_) (fun (c7''' : (3 : Int) < (3 : Int)) => ?_)
              · refine gLoadI 46 X3 hx (H d8_44) rfl rfl ?_
                exact gRetI X3 hx hlk hret (H d8_46) (by decide) (by decide) (⟨rfl, N3, by rw [e3]; exact K3, by rw [e3]; exact V3⟩)
              · exact absurd c7''' (by decide)
            · exact absurd c20'' (by omega)
        · exact absurd c20' (by omega)
    · exact absurd c20 (by omega)
theorem c_compress_3 (l : Launch) (Z : State) (a0 : Array Value) (hw : ∀ d ∈ tables_1, d.before a0 Z = true) (x : Addr) (cx : ClassId) (ch0 ch1 ch2 : Int32) (h0 : Heap) (A : Arv Z h0 x cx .char 3 [.int ch0, .int ch1, .int ch2] (.int 0)) (hch0 : rg ch0) (hch1 : rg ch1) (hch2 : rg ch2) :
    Ctr l Z mn14 jdk_52_method_16_code 6 (some (.array .byte)) [] ⟨1, 1, 3, 18⟩ #[(.ref x), (.int (0 : Int32)), (.int (3 : Int32))] h0 (fun v h L => ∃ (t : Addr) (ct : ClassId), v = some (.ref t) ∧ h0.size ≤ t ∧ Fr h0.size L ∧ Keep h0 h [] ∧ sA Z h t ct 3 [by8 ch0, by8 ch1, by8 ch2]) := by
  refine Ctr.of (plainFor_of_name pn_5) ?_
  intro p e s m below meth c s₁ hx H hml hret hown hnm hZ hlk X0 e0
  refine Goes.cast (show entryFrame m _ _ = mkF m 0 #[.val (.ref x), .val (.int (0 : Int32)), .val (.int (3 : Int32)), .unset, .unset, .unset] [] from rfl) ?_
  refine gLoadIN 1 X0 hx (H d7_0) rfl rfl ?_
  refine gNewP X0 hx hZ (ow hw 28 rfl) e0 (n := (3 : Int32)) (H d7_1) (by decide) (cap := 3) (by decide) (by decide) (by decide) (by decide) 3 (pc' := 3) rfl (fun T1 h1 b1 ck1 X1 e1 g1 E1 A1 => ?_)
  have ne_x_b1 : x ≠ b1 := Nat.ne_of_lt (Nat.lt_of_lt_of_eq A.lt g1.symm)
  have f1_0 := A.ext E1
  have sz_b1 : h0.size ≤ b1 := Nat.le_trans (Nat.le_refl _) (Nat.le_of_eq g1.symm)
  have zs1 : h0.size ≤ h1.size := Nat.le_trans (Nat.le_refl _) E1.1
  have K1 : Keep h0 h1 [] := (Keep.refl h0 []).ext E1
  have V1 : Arv Z h1 b1 ck1 .byte (3 : Int32) [(.int (0 : Int32)), (.int (0 : Int32)), (.int (0 : Int32))] (.int (0 : Int32)) := A1
  refine gStoreAN 4 X1 hx (H d7_3) (l' := #[.val (.ref x), .val (.int (0 : Int32)), .val (.int (3 : Int32)), .val (.ref b1), .unset, .unset]) rfl rfl rfl ?_
  refine gLoadAN 5 X1 hx (H d7_4) rfl rfl rfl ?_
  refine gLoadIN 6 X1 hx (H d7_5) rfl rfl ?_
  refine gLoadAN 7 X1 hx (H d7_6) rfl rfl rfl ?_
  refine gIconst 8 X1 hx (v := (0 : Int32)) (H d7_7) rfl rfl ?_
  refine gLoadIN 9 X1 hx (H d7_8) rfl rfl ?_
  refine gCallS X1 hx hZ (y := mn15) hown e1 (by rw [hml]; rfl) (ow hw 29 rfl) (ow hw 30 rfl) (ow hw 26 rfl) (ow hw 31 rfl) (by decide) (argsL := [(.ref x), (.int (0 : Int32)), (.ref b1), (.int (0 : Int32)), (.int (3 : Int32))]) (st := []) (c_compress_3i l Z a0 hw x b1 cx ck1 h0.size ch0 ch1 ch2 h1 sz_b1 ne_x_b1 f1_0 V1 hch0 hch1 hch2) (lenOf pd_14 rfl) (H d7_9) (pc' := 12) rfl rfl (by decide) (W := 0) (Nat.le_of_eq rfl) (by decide) (by decide) (by decide) ?_
  intro T2 v2 L2 X2 hQ2
  obtain ⟨rfl, Nq2, Kq2, Aq2⟩ := hQ2
  have N2 := Fr.app (Fr.nil h0.size) Nq2
  have K2 : Keep h0 T2.heap [] := K1.trans Kq2 (allS (Or.inr sz_b1) all0)
  refine gStoreI 14 X2 hx (H d7_12) (l' := #[.val (.ref x), .val (.int (0 : Int32)), .val (.int (3 : Int32)), .val (.ref b1), .val (.int (3 : Int32)), .unset]) rfl rfl ?_
  refine gLoadI 16 X2 hx (H d7_14) rfl rfl ?_
  refine gLoadIN 17 X2 hx (H d7_16) rfl rfl ?_
  refine gIcmpEqT X2 hx (H d7_17) (pc' := 57) (by decide) (by decide) (pn := 20) rfl (fun (c17 : (3 : Int) = (3 : Int)) => ?_) (fun (c17 : ¬ (3 : Int) = (3 : Int)) => ?_)
  · refine gLoadAN 58 X2 hx (H d7_57) rfl rfl rfl ?_
    exact gRetA X2 hx hlk hret rfl rfl (H d7_58) (by decide) (by decide) (⟨b1, _, rfl, sz_b1, N2, K2, Aq2⟩)
  · exact absurd c17 (by decide)
theorem c_cfal_3 (l : Launch) (Z : State) (a0 : Array Value) (hw : ∀ d ∈ tables_1, d.before a0 Z = true) (t : Addr) (ck : ClassId) (ch0 ch1 ch2 : Int32) (h0 : Heap) (A : sA Z h0 t ck 3 [by8 ch0, by8 ch1, by8 ch2]) :
    Ctr l Z mn13 jdk_52_method_15_code 2 (some .byte) [] ⟨0, 0, 0, 0⟩ #[(.ref t), (.int (3 : Int32))] h0 (Just h0 (.int 0)) := by
  refine Ctr.of (plainFor_of_name pn_5) ?_
  intro p e s m below meth c s₁ hx H hml hret hown hnm hZ hlk X0 e0
  refine Goes.cast (show entryFrame m _ _ = mkF m 0 #[.val (.ref t), .val (.int (3 : Int32))] [] from rfl) ?_
  refine gLoadIN 1 X0 hx (H d6_0) rfl rfl ?_
  refine gLoadAN 2 X0 hx (H d6_1) rfl rfl rfl ?_
  refine gArrLen X0 hx hZ e0 A (H d6_2) (pc' := 3) rfl ?_
  refine gIsub 4 X0 hx (H d6_3) rfl ?_
  show Goes p e below _ s₁ (mkF m 4 #[.val (.ref t), .val (.int (3 : Int32))] [(.int (0 : Int32))])
  refine gBipush 6 X0 hx (v := (31 : Int32)) (H d6_4) rfl rfl ?_
  refine gIushr 7 X0 hx (H d6_6) rfl ?_
  show Goes p e below _ s₁ (mkF m 7 #[.val (.ref t), .val (.int (3 : Int32))] [(.int (0 : Int32))])
  refine gI2b 8 X0 hx (H d6_7) rfl ?_
  show Goes p e below _ s₁ (mkF m 8 #[.val (.ref t), .val (.int (3 : Int32))] [(.int (0 : Int32))])
  exact gRetN X0 hx hlk hret (by simp) (H d6_8) (w := (0 : Int32)) rfl (by decide) (by decide) (⟨rfl, e0, rfl⟩)
theorem c_sinit_3v (l : Launch) (Z : State) (a0 : Array Value) (hw : ∀ d ∈ tables_1, d.before a0 Z = true) (a x : Addr) (cx : ClassId) (n0 : Nat) (ch0 ch1 ch2 : Int32) (h0 : Heap) (hCpt : Cpt Z h0) (ga : n0 ≤ a) (gz : n0 ≤ h0.size) (hax : x ≠ a) (E : sE Z h0 a) (C : sC Z h0 a) (V : Fld Z h0 a "java/lang/String" "value" "[B" .null) (A : Arv Z h0 x cx .char 3 [.int ch0, .int ch1, .int ch2] (.int 0)) (hch0 : rg ch0) (hch1 : rg ch1) (hch2 : rg ch2) :
    Ctr l Z mn10 jdk_42_method_149_code 6 none [] ⟨2, 1, 3, 37⟩ #[(.ref a), (.ref x), (.int (0 : Int32)), (.int (3 : Int32)), .null] h0 (fun v h L => ∃ (t : Addr) (ct : ClassId), v = none ∧ Fr n0 L ∧ Keep h0 h [a] ∧ h0.size ≤ t ∧ sE Z h a ∧ sC Z h a ∧ sV Z h a t ∧ sA Z h t ct 3 [by8 ch0, by8 ch1, by8 ch2]) := by
  refine Ctr.of (plainFor_of_name pn_3) ?_
  intro p e s m below meth c s₁ hx H hml hret hown hnm hZ hlk X0 e0
  refine Goes.cast (show entryFrame m _ _ = mkF m 0 #[.val (.ref a), .val (.ref x), .val (.int (0 : Int32)), .val (.int (3 : Int32)), .val .null, .unset] [] from rfl) ?_
  have hCpt0 := hCpt
  obtain ⟨cz, SC, hcz⟩ := hCpt0
  refine gLoadAN 1 X0 hx (H d2_0) rfl rfl rfl ?_
  refine gInitO X0 hx hZ hown (ow hw 20 rfl) (ow hw 21 rfl) (ow hw 22 rfl) e0 (by rw [hml]; rfl) (H d2_1) (pc' := 4) rfl (by decide) (W := 0) (Nat.le_of_eq rfl) (by decide) (fun T1 X1 e1 => ?_)
  refine gLoadIN 5 X1 hx (H d2_4) rfl rfl ?_
  refine gIfNeT X1 hx (H d2_5) (pc' := 27) (by decide) (by decide) (pn := 8) rfl (fun (c5 : ¬ (3 : Int) = (0 : Int)) => ?_) (fun (c5 : (3 : Int) = (0 : Int)) => ?_)
  · refine gGetS X1 hx hZ hown (ow hw 23 rfl) Via.refl e1 SC (H d2_27) (pc' := 30) rfl (fun T2 X2 e2 => ?_)
    refine gIfEqT X2 hx (H d2_30) (pc' := 58) (by decide) (by decide) (pn := 33) rfl (fun (c30 : cz.toInt = (0 : Int)) => ?_) (fun (c30 : ¬ cz.toInt = (0 : Int)) => ?_)
    · exact absurd c30 hcz
    · refine gLoadAN 34 X2 hx (H d2_33) rfl rfl rfl ?_
      refine gLoadIN 35 X2 hx (H d2_34) rfl rfl ?_
      refine gLoadIN 36 X2 hx (H d2_35) rfl rfl ?_
      refine gCallS X2 hx hZ (y := mn14) hown e2 (by rw [hml]; rfl) (ow hw 24 rfl) (ow hw 25 rfl) (ow hw 26 rfl) (ow hw 27 rfl) (by decide) (argsL := [(.ref x), (.int (0 : Int32)), (.int (3 : Int32))]) (st := []) (c_compress_3 l Z a0 hw x cx ch0 ch1 ch2 h0 A hch0 hch1 hch2) (lenOf pd_12 rfl) (H d2_36) (pc' := 39) rfl rfl (by decide) (W := 0) (Nat.le_of_eq rfl) (by decide) (by decide) (by decide) ?_
      intro T3 v3 L3 X3 hQ3
      obtain ⟨t3, ct3, rfl, gt3, Nq3, Kq3, Aq3⟩ := hQ3
      have N3 := Fr.app (Fr.nil n0) (fun y hy => Nat.le_trans gz (Nq3 y hy))
      have K3 : Keep h0 T3.heap [a] := (Keep.refl h0 [a]).trans Kq3 all0
      have f3_0 := own_sta_keep SC Kq3 ns0
      have f3_1 := E.keep Kq3
      have f3_2 := C.keep Kq3 nin0
      have f3_3 := V.keep Kq3 nin0
      have nt3 : t3 ≠ a := Ne.symm (Nat.ne_of_lt (Nat.lt_of_lt_of_le E.lt gt3))
      refine gStoreA 41 X3 hx (H d2_39) (l' := #[.val (.ref a), .val (.ref x), .val (.int (0 : Int32)), .val (.int (3 : Int32)), .val .null, .val (.ref t3)]) rfl rfl rfl ?_
      refine gLoadAN 42 X3 hx (H d2_41) rfl rfl rfl ?_
      refine gLoadA 44 X3 hx (H d2_42) rfl rfl rfl ?_
      refine gLoadIN 45 X3 hx (H d2_44) rfl rfl ?_
      refine gCallSJ X3 hx hZ (y := mn13) hown rfl (by rw [hml]; rfl) (ow hw 32 rfl) (ow hw 33 rfl) (ow hw 26 rfl) (ow hw 34 rfl) (by decide) (argsL := [(.ref t3), (.int (3 : Int32))]) (st := [(.ref a)]) (c_cfal_3 l Z a0 hw t3 ct3 ch0 ch1 ch2 _ Aq3) (lenOf pd_9 rfl) (H d2_45) (pc' := 48) rfl rfl rfl rfl (by decide) (W := 1) (Nat.le_of_eq rfl) (by decide) (by decide) (by decide) ?_
      intro T4 X4 e4
      refine gPutF X4 hx hZ hown (ow hw 35 rfl) Via.refl e4 f3_2 f3_1 (Or.inr ⟨(ow hw 36 rfl), rfl, hnm⟩) (ow hw 10 rfl) (ty := .byte) (by decide) rfl rfl (H d2_48) (pc' := 51) rfl (fun T5 h5 X5 e5 W5 => ?_)
      have f5_0 := f3_0.wr W5
      have f5_1 := f3_1.wr W5
      have f5_2 := f3_2.same W5
      have f5_3 := f3_3.other W5 (Or.inr (slot_ne (Or.inr (ow hw 38 rfl)) (Or.inr (ow hw 36 rfl)) (by decide) (t := (.array .byte)) (t' := .byte) (by decide) (by decide)))
      have f5_4 := Aq3.other W5 nt3
      have zs5 : h0.size ≤ h5.size := by rw [W5.size]; exact Kq3.1
      have N5 := Fr.snoc X5 N3 ga
      have K5 : Keep h0 h5 [a] := K3.wr W5 (Or.inl (by simp))
      refine gLoadAN 52 X5 hx (H d2_51) rfl rfl rfl ?_
      refine gLoadA 54 X5 hx (H d2_52) rfl rfl rfl ?_
      refine gPutF X5 hx hZ hown (ow hw 37 rfl) Via.refl e5 f5_3 f5_1 (Or.inr ⟨(ow hw 38 rfl), rfl, hnm⟩) (ow hw 10 rfl) (ty := (.array .byte)) (by decide) rfl rfl (H d2_54) (pc' := 57) rfl (fun T6 h6 X6 e6 W6 => ?_)
      have f6_0 := f5_0.wr W6
      have f6_1 := f5_1.wr W6
      have f6_2 := f5_2.other W6 (Or.inr (slot_ne (Or.inr (ow hw 36 rfl)) (Or.inr (ow hw 38 rfl)) (by decide) (t := .byte) (t' := (.array .byte)) (by decide) (by decide)))
      have f6_3 := f5_3.same W6
      have f6_4 := f5_4.other W6 nt3
      have zs6 : h0.size ≤ h6.size := by rw [W6.size]; exact zs5
      have N6 := Fr.snoc X6 N5 ga
      have K6 : Keep h0 h6 [a] := K5.wr W6 (Or.inl (by simp))
      exact gRetV X6 hx hlk hret (H d2_57) (by decide) (by decide) (⟨t3, ct3, rfl, N6, by rw [e6]; exact K6, gt3, by rw [e6]; exact f6_1, by rw [e6]; exact f6_2, by rw [e6]; exact f6_3, by rw [e6]; exact f6_4⟩)
  · exact absurd c5 (by decide)
theorem c_sinit_3 (l : Launch) (Z : State) (a0 : Array Value) (hw : ∀ d ∈ tables_1, d.before a0 Z = true) (a x : Addr) (cx : ClassId) (n0 : Nat) (ch0 ch1 ch2 : Int32) (h0 : Heap) (hCpt : Cpt Z h0) (ga : n0 ≤ a) (gz : n0 ≤ h0.size) (hax : x ≠ a) (E : sE Z h0 a) (C : sC Z h0 a) (V : Fld Z h0 a "java/lang/String" "value" "[B" .null) (A : Arv Z h0 x cx .char 3 [.int ch0, .int ch1, .int ch2] (.int 0)) (hch0 : rg ch0) (hch1 : rg ch1) (hch2 : rg ch2) :
    Ctr l Z mn9 jdk_42_method_3_code 2 none [] ⟨3, 1, 3, 54⟩ #[(.ref a), (.ref x)] h0 (fun v h L => ∃ (t : Addr) (ct : ClassId), v = none ∧ Fr n0 L ∧ Keep h0 h [a] ∧ h0.size ≤ t ∧ sE Z h a ∧ sC Z h a ∧ sV Z h a t ∧ sA Z h t ct 3 [by8 ch0, by8 ch1, by8 ch2]) := by
  refine Ctr.of (plainFor_of_name pn_3) ?_
  intro p e s m below meth c s₁ hx H hml hret hown hnm hZ hlk X0 e0
  refine Goes.cast (show entryFrame m _ _ = mkF m 0 #[.val (.ref a), .val (.ref x)] [] from rfl) ?_
  refine gLoadAN 1 X0 hx (H d3_0) rfl rfl rfl ?_
  refine gLoadAN 2 X0 hx (H d3_1) rfl rfl rfl ?_
  refine gIconst 3 X0 hx (v := (0 : Int32)) (H d3_2) rfl rfl ?_
  refine gLoadAN 4 X0 hx (H d3_3) rfl rfl rfl ?_
  refine gArrLen X0 hx hZ e0 A (H d3_4) (pc' := 5) rfl ?_
  refine gNull 6 X0 hx (H d3_5) rfl ?_
  refine gCallI X0 hx hZ (y := mn10) rfl hown e0 (by rw [hml]; rfl) (ow hw 16 rfl) (ow hw 17 rfl) (ow hw 11 rfl) (ow hw 19 rfl) (by decide) (argsL := [(.ref x), (.int (0 : Int32)), (.int (3 : Int32)), .null]) (st := []) (c_sinit_3v l Z a0 hw a x cx n0 ch0 ch1 ch2 h0 hCpt ga gz hax E C V A hch0 hch1 hch2) (lenOf pd_13 rfl) (H d3_6) (pc' := 9) rfl rfl (by decide) (W := 0) (Nat.le_of_eq rfl) (by decide) (by decide) (by decide) ?_
  intro T1 v1 L1 X1 hQ1
  obtain ⟨t, ct, rfl, Nq, Kq, gt, Eq, Cq, Vq, Aq⟩ := hQ1
  exact gRetV X1 hx hlk hret (H d3_9) (by decide) (by decide) (⟨t, ct, rfl, Nq, Kq, gt, Eq, Cq, Vq, Aq⟩)
theorem d12_0 : decode method_6_code 0 = .ok (.lload_n 0, 1) := by decide +kernel
theorem d12_1 : decode method_6_code 1 = .ok (.ldc2_w 66, 3) := by decide +kernel
theorem d12_4 : decode method_6_code 4 = .ok (.land, 1) := by decide +kernel
theorem d12_5 : decode method_6_code 5 = .ok (.l2i, 1) := by decide +kernel
theorem d12_6 : decode method_6_code 6 = .ok (.istore_n 2, 1) := by decide +kernel
theorem d12_7 : decode method_6_code 7 = .ok (.lload_n 0, 1) := by decide +kernel
theorem d12_8 : decode method_6_code 8 = .ok (.iconst 0, 1) := by decide +kernel
theorem d12_9 : decode method_6_code 9 = .ok (.invokestatic 68, 3) := by decide +kernel
theorem pd_4 : parseMethodDescriptor "(JI)C" = some ⟨[.long, .int], some .char⟩ := by decide +kernel
theorem d12_12 : decode method_6_code 12 = .ok (.istore_n 3, 1) := by decide +kernel
theorem d12_13 : decode method_6_code 13 = .ok (.lload_n 0, 1) := by decide +kernel
theorem d12_14 : decode method_6_code 14 = .ok (.iconst 1, 1) := by decide +kernel
theorem d12_15 : decode method_6_code 15 = .ok (.invokestatic 68, 3) := by decide +kernel
theorem d12_18 : decode method_6_code 18 = .ok (.istore 4, 2) := by decide +kernel
theorem d12_20 : decode method_6_code 20 = .ok (.lload_n 0, 1) := by decide +kernel
theorem d12_21 : decode method_6_code 21 = .ok (.iconst 2, 1) := by decide +kernel
theorem d12_22 : decode method_6_code 22 = .ok (.invokestatic 68, 3) := by decide +kernel
theorem d12_25 : decode method_6_code 25 = .ok (.istore 5, 2) := by decide +kernel
theorem d12_27 : decode method_6_code 27 = .ok (.iload_n 2, 1) := by decide +kernel
theorem d12_28 : decode method_6_code 28 = .ok (.ifCond .ne 14, 3) := by decide +kernel
theorem d12_42 : decode method_6_code 42 = .ok (.iload_n 2, 1) := by decide +kernel
theorem d12_43 : decode method_6_code 43 = .ok (.iconst 1, 1) := by decide +kernel
theorem d12_44 : decode method_6_code 44 = .ok (.if_icmp .ne 18, 3) := by decide +kernel
theorem d12_62 : decode method_6_code 62 = .ok (.iload_n 2, 1) := by decide +kernel
theorem d12_63 : decode method_6_code 63 = .ok (.iconst 2, 1) := by decide +kernel
theorem d12_64 : decode method_6_code 64 = .ok (.if_icmp .ne 23, 3) := by decide +kernel
theorem d12_87 : decode method_6_code 87 = .ok (.new 72, 3) := by decide +kernel
theorem d12_90 : decode method_6_code 90 = .ok (.dup, 1) := by decide +kernel
theorem d12_91 : decode method_6_code 91 = .ok (.iconst 3, 1) := by decide +kernel
theorem d12_92 : decode method_6_code 92 = .ok (.newarray .char, 2) := by decide +kernel
theorem d12_94 : decode method_6_code 94 = .ok (.dup, 1) := by decide +kernel
theorem d12_95 : decode method_6_code 95 = .ok (.iconst 0, 1) := by decide +kernel
theorem d12_96 : decode method_6_code 96 = .ok (.iload_n 3, 1) := by decide +kernel
theorem d12_97 : decode method_6_code 97 = .ok (.castore, 1) := by decide +kernel
theorem d12_98 : decode method_6_code 98 = .ok (.dup, 1) := by decide +kernel
theorem d12_99 : decode method_6_code 99 = .ok (.iconst 1, 1) := by decide +kernel
theorem d12_100 : decode method_6_code 100 = .ok (.iload 4, 2) := by decide +kernel
theorem d12_102 : decode method_6_code 102 = .ok (.castore, 1) := by decide +kernel
theorem d12_103 : decode method_6_code 103 = .ok (.dup, 1) := by decide +kernel
theorem d12_104 : decode method_6_code 104 = .ok (.iconst 2, 1) := by decide +kernel
theorem d12_105 : decode method_6_code 105 = .ok (.iload 5, 2) := by decide +kernel
theorem d12_107 : decode method_6_code 107 = .ok (.castore, 1) := by decide +kernel
theorem d12_108 : decode method_6_code 108 = .ok (.invokespecial 74, 3) := by decide +kernel
theorem pd_11 : parseMethodDescriptor "([C)V" = some ⟨[(.array .char)], none⟩ := by decide +kernel
theorem d12_111 : decode method_6_code 111 = .ok (.areturn, 1) := by decide +kernel
theorem d12_67 : decode method_6_code 67 = .ok (.new 72, 3) := by decide +kernel
theorem d12_70 : decode method_6_code 70 = .ok (.dup, 1) := by decide +kernel
theorem d12_71 : decode method_6_code 71 = .ok (.iconst 2, 1) := by decide +kernel
theorem d12_72 : decode method_6_code 72 = .ok (.newarray .char, 2) := by decide +kernel
theorem d12_74 : decode method_6_code 74 = .ok (.dup, 1) := by decide +kernel
theorem d12_75 : decode method_6_code 75 = .ok (.iconst 0, 1) := by decide +kernel
theorem d12_76 : decode method_6_code 76 = .ok (.iload_n 3, 1) := by decide +kernel
theorem d12_77 : decode method_6_code 77 = .ok (.castore, 1) := by decide +kernel
theorem d12_78 : decode method_6_code 78 = .ok (.dup, 1) := by decide +kernel
theorem d12_79 : decode method_6_code 79 = .ok (.iconst 1, 1) := by decide +kernel
theorem d12_80 : decode method_6_code 80 = .ok (.iload 4, 2) := by decide +kernel
theorem d12_82 : decode method_6_code 82 = .ok (.castore, 1) := by decide +kernel
theorem d12_83 : decode method_6_code 83 = .ok (.invokespecial 74, 3) := by decide +kernel
theorem d12_86 : decode method_6_code 86 = .ok (.areturn, 1) := by decide +kernel
theorem d12_47 : decode method_6_code 47 = .ok (.new 72, 3) := by decide +kernel
theorem d12_50 : decode method_6_code 50 = .ok (.dup, 1) := by decide +kernel
theorem d12_51 : decode method_6_code 51 = .ok (.iconst 1, 1) := by decide +kernel
theorem d12_52 : decode method_6_code 52 = .ok (.newarray .char, 2) := by decide +kernel
theorem d12_54 : decode method_6_code 54 = .ok (.dup, 1) := by decide +kernel
theorem d12_55 : decode method_6_code 55 = .ok (.iconst 0, 1) := by decide +kernel
theorem d12_56 : decode method_6_code 56 = .ok (.iload_n 3, 1) := by decide +kernel
theorem d12_57 : decode method_6_code 57 = .ok (.castore, 1) := by decide +kernel
theorem d12_58 : decode method_6_code 58 = .ok (.invokespecial 74, 3) := by decide +kernel
theorem d12_61 : decode method_6_code 61 = .ok (.areturn, 1) := by decide +kernel
theorem d12_31 : decode method_6_code 31 = .ok (.new 72, 3) := by decide +kernel
theorem d12_34 : decode method_6_code 34 = .ok (.dup, 1) := by decide +kernel
theorem d12_35 : decode method_6_code 35 = .ok (.iconst 0, 1) := by decide +kernel
theorem d12_36 : decode method_6_code 36 = .ok (.newarray .char, 2) := by decide +kernel
theorem d12_38 : decode method_6_code 38 = .ok (.invokespecial 74, 3) := by decide +kernel
theorem d12_41 : decode method_6_code 41 = .ok (.areturn, 1) := by decide +kernel
abbrev mn7 : MethodName := ⟨"com/example/strict_chain/strictchain/FindingEqualsPinLaw", "text", "(J)Ljava/lang/String;"⟩
theorem c_text (l : Launch) (Z : State) (a0 : Array Value) (hw : ∀ d ∈ tables_1, d.before a0 Z = true) (x : Int64) (h0 : Heap) (hEL : EW Z a0 [("com/example/strict_chain/strictchain/Finding", 7), ("com/example/strict_chain/strictchain/Finding", 22), ("com/example/strict_chain/strictchain/Finding", 29), ("com/example/strict_chain/strictchain/Finding", 36), ("java/lang/String", 7)]) (hCpt : Cpt Z h0) :
    CtrH l Z [("com/example/strict_chain/strictchain/Finding", 7), ("com/example/strict_chain/strictchain/Finding", 22), ("com/example/strict_chain/strictchain/Finding", 29), ("com/example/strict_chain/strictchain/Finding", 36), ("java/lang/String", 7)] [] mn7 method_6_code 6 (some (.object "java/lang/String")) [] ⟨4, 6, 12, 80⟩ #[(.long x)] h0 (fun v h L => ∃ a : Addr, v = some (.ref a) ∧ h0.size ≤ a ∧ Fr h0.size L ∧ Keep h0 h [] ∧ StrL Z h a (txt x)) := by
  refine CtrH.of (plainFor_of_name pn_1) ?_
  intro p e s m below meth c s₁ hx H hml hret hown hnm hZ hlk X0 e0 hS H0 hSafe
  refine Goes.cast (show entryFrame m _ _ = mkF m 0 #[.val (.long x), .second, .unset, .unset, .unset, .unset] [] from rfl) ?_
  obtain ⟨ch0, hg0, hch0⟩ : ∃ z, z = chv x 0 ∧ rg z := ⟨_, rfl, chv_rg x 0⟩
  obtain ⟨ch1, hg1, hch1⟩ : ∃ z, z = chv x 1 ∧ rg z := ⟨_, rfl, chv_rg x 1⟩
  obtain ⟨ch2, hg2, hch2⟩ : ∃ z, z = chv x 2 ∧ rg z := ⟨_, rfl, chv_rg x 2⟩
  refine gLoadJN 1 X0 hx (H d12_0) rfl rfl ?_
  refine gLdc2 4 X0 hx hZ hown (ow hw 4 rfl) (H d12_1) rfl ?_
  refine gLand 5 X0 hx (H d12_4) rfl ?_
  refine gL2i 6 X0 hx (H d12_5) rfl ?_
  refine gStoreIN 7 X0 hx (H d12_6) (l' := #[.val (.long x), .second, .val (.int ((x &&& (3 : Int64)).toInt32)), .unset, .unset, .unset]) rfl rfl ?_
  refine gLoadJN 8 X0 hx (H d12_7) rfl rfl ?_
  refine gIconst 9 X0 hx (v := (0 : Int32)) (H d12_8) rfl rfl ?_
  refine gCallSJ X0 hx hZ (y := mn2) hown e0 (by rw [hml]; rfl) (ow hw 5 rfl) (ow hw 6 rfl) (ow hw 2 rfl) (ow hw 7 rfl) (by decide) (argsL := [(.long x), (.int (0 : Int32))]) (st := []) (c_ch l Z a0 hw x 0 ch0 hg0 h0) (lenOf pd_4 rfl) (H d12_9) (pc' := 12) rfl rfl rfl rfl (by decide) (W := 0) (Nat.le_of_eq rfl) (by decide) (by decide) (by decide) ?_
  intro T1 X1 e1
  refine gStoreIN 13 X1 hx (H d12_12) (l' := #[.val (.long x), .second, .val (.int ((x &&& (3 : Int64)).toInt32)), .val (.int ch0), .unset, .unset]) rfl rfl ?_
  refine gLoadJN 14 X1 hx (H d12_13) rfl rfl ?_
  refine gIconst 15 X1 hx (v := (1 : Int32)) (H d12_14) rfl rfl ?_
  refine gCallSJ X1 hx hZ (y := mn2) hown e1 (by rw [hml]; rfl) (ow hw 5 rfl) (ow hw 6 rfl) (ow hw 2 rfl) (ow hw 7 rfl) (by decide) (argsL := [(.long x), (.int (1 : Int32))]) (st := []) (c_ch l Z a0 hw x 1 ch1 hg1 h0) (lenOf pd_4 rfl) (H d12_15) (pc' := 18) rfl rfl rfl rfl (by decide) (W := 0) (Nat.le_of_eq rfl) (by decide) (by decide) (by decide) ?_
  intro T2 X2 e2
  refine gStoreI 20 X2 hx (H d12_18) (l' := #[.val (.long x), .second, .val (.int ((x &&& (3 : Int64)).toInt32)), .val (.int ch0), .val (.int ch1), .unset]) rfl rfl ?_
  refine gLoadJN 21 X2 hx (H d12_20) rfl rfl ?_
  refine gIconst 22 X2 hx (v := (2 : Int32)) (H d12_21) rfl rfl ?_
  refine gCallSJ X2 hx hZ (y := mn2) hown e2 (by rw [hml]; rfl) (ow hw 5 rfl) (ow hw 6 rfl) (ow hw 2 rfl) (ow hw 7 rfl) (by decide) (argsL := [(.long x), (.int (2 : Int32))]) (st := []) (c_ch l Z a0 hw x 2 ch2 hg2 h0) (lenOf pd_4 rfl) (H d12_22) (pc' := 25) rfl rfl rfl rfl (by decide) (W := 0) (Nat.le_of_eq rfl) (by decide) (by decide) (by decide) ?_
  intro T3 X3 e3
  refine gStoreI 27 X3 hx (H d12_25) (l' := #[.val (.long x), .second, .val (.int ((x &&& (3 : Int64)).toInt32)), .val (.int ch0), .val (.int ch1), .val (.int ch2)]) rfl rfl ?_
  refine gLoadIN 28 X3 hx (H d12_27) rfl rfl ?_
  refine gIfNeT X3 hx (H d12_28) (pc' := 42) (by decide) (by decide) (pn := 31) rfl (fun (c28 : ¬ ((x &&& (3 : Int64)).toInt32).toInt = (0 : Int)) => ?_) (fun (c28 : ((x &&& (3 : Int64)).toInt32).toInt = (0 : Int)) => ?_)
  · refine gLoadIN 43 X3 hx (H d12_42) rfl rfl ?_
    refine gIconst 44 X3 hx (v := (1 : Int32)) (H d12_43) rfl rfl ?_
    refine gIcmpNeT X3 hx (H d12_44) (pc' := 62) (by decide) (by decide) (pn := 47) rfl (fun (c44 : ¬ ((x &&& (3 : Int64)).toInt32).toInt = (1 : Int)) => ?_) (fun (c44 : ((x &&& (3 : Int64)).toInt32).toInt = (1 : Int)) => ?_)
    · refine gLoadIN 63 X3 hx (H d12_62) rfl rfl ?_
      refine gIconst 64 X3 hx (v := (2 : Int32)) (H d12_63) rfl rfl ?_
      refine gIcmpNeT X3 hx (H d12_64) (pc' := 87) (by decide) (by decide) (pn := 67) rfl (fun (c64 : ¬ ((x &&& (3 : Int64)).toInt32).toInt = (2 : Int)) => ?_) (fun (c64 : ((x &&& (3 : Int64)).toInt32).toInt = (2 : Int)) => ?_)
      · refine gNew X3 hx hZ hown (ow hw 9 rfl) (ow hw 10 rfl) (ow hw 11 rfl) e3 (H d12_87) (pc' := 90) rfl (by decide) (by decide) (fun T4 h4 b4 X4 e4 g4 E4 A4 D4 => ?_)
        have H4 := H0.trans (CHr.ext E4 H0.1)
        have hk4 := Nat.le_trans (Nat.zero_le _) E4.1
        have s4_b := Safe.ext E4 H0.1 (Safe.new (Nat.le_of_eq g4.symm))
        have f4_0 := hCpt.ext E4
        have sz_b4 : h0.size ≤ b4 := Nat.le_trans (Nat.le_refl _) (Nat.le_of_eq g4.symm)
        have zs4 : h0.size ≤ h4.size := Nat.le_trans (Nat.le_refl _) E4.1
        have K4 : Keep h0 h4 [] := (Keep.refl h0 []).ext E4
        have F4_coder : Fld Z h4 b4 "java/lang/String" "coder" "B" (.int (0 : Int32)) := D4 (Or.inr (ow hw 36 rfl)) (ty := .byte) (by decide)
        have F4_value : Fld Z h4 b4 "java/lang/String" "value" "[B" .null := D4 (Or.inr (ow hw 38 rfl)) (ty := (.array .byte)) (by decide)
        refine gDup 91 X4 hx (H d12_90) rfl rfl ?_
        refine gIconst 92 X4 hx (v := (3 : Int32)) (H d12_91) rfl rfl ?_
        refine gNewP X4 hx hZ (ow hw 12 rfl) e4 (n := (3 : Int32)) (H d12_92) (by decide) (cap := 3) (by decide) (by decide) (by decide) (by decide) 3 (pc' := 94) rfl (fun T5 h5 b5 ck5 X5 e5 g5 E5 A5 => ?_)
        have ne_b4_b5 : b4 ≠ b5 := Nat.ne_of_lt (Nat.lt_of_lt_of_eq A4.lt g5.symm)
        have H5 := H4.trans (CHr.ext E5 H4.1)
        have hk5 := Nat.le_trans hk4 E5.1
        have s5_0 := Safe.ext E5 H4.1 s4_b
        have s5_b := Safe.ext E5 H4.1 (Safe.new (Nat.le_of_eq g5.symm))
        have f5_0 := f4_0.ext E5
        have f5_1 := A4.ext E5
        have f5_2 := F4_coder.ext E5
        have f5_3 := F4_value.ext E5
        have sz_b5 : h0.size ≤ b5 := Nat.le_trans zs4 (Nat.le_of_eq g5.symm)
        have zs5 : h0.size ≤ h5.size := Nat.le_trans zs4 E5.1
        have K5 : Keep h0 h5 [] := K4.ext E5
        have V5 : Arv Z h5 b5 ck5 .char (3 : Int32) [(.int (0 : Int32)), (.int (0 : Int32)), (.int (0 : Int32))] (.int (0 : Int32)) := A5
        refine gDup 95 X5 hx (H d12_94) rfl rfl ?_
        refine gIconst 96 X5 hx (v := (0 : Int32)) (H d12_95) rfl rfl ?_
        refine gLoadIN 97 X5 hx (H d12_96) rfl rfl ?_
        refine gCastore X5 hx hZ e5 (x := ch0) V5 (j := (0 : Int32)) (by decide) (by decide) 0 (by decide) (by simp) (H d12_97) (pc' := 98) rfl (fun T6 h6 X6 e6 W6 A6 => ?_)
        have S6 := s5_b
        have H6 := H5.trans (CHr.wr W6 S6 H5.1)
        have hk6 := Nat.le_trans hk5 (Nat.le_of_eq W6.size.symm)
        have s6_0 := Safe.wr W6 S6 H5.1 s5_0
        have s6_1 := Safe.wr W6 S6 H5.1 s5_b
        have f6_0 := f5_0.wr W6
        have f6_1 := f5_1.wr W6
        have f6_2 := f5_2.other W6 (Or.inl ne_b4_b5)
        have f6_3 := f5_3.other W6 (Or.inl ne_b4_b5)
        have zs6 : h0.size ≤ h6.size := by rw [W6.size]; exact zs5
        have N6 := Fr.snoc X6 (Fr.nil h0.size) sz_b5
        have K6 : Keep h0 h6 [] := K5.wr W6 (Or.inr sz_b5)
        have V6 : Arv Z h6 b5 _ .char (3 : Int32) [(.int ch0), (.int (0 : Int32)), (.int (0 : Int32))] (.int (0 : Int32)) := (by have q := A6; rw [own_nc (own_c8 hch0)] at q; exact q)
        refine gDup 99 X6 hx (H d12_98) rfl rfl ?_
        refine gIconst 100 X6 hx (v := (1 : Int32)) (H d12_99) rfl rfl ?_
        refine gLoadI 102 X6 hx (H d12_100) rfl rfl ?_
        refine gCastore X6 hx hZ e6 (x := ch1) V6 (j := (1 : Int32)) (by decide) (by decide) 1 (by decide) (by simp) (H d12_102) (pc' := 103) rfl (fun T7 h7 X7 e7 W7 A7 => ?_)
        have S7 := s6_1
        have H7 := H6.trans (CHr.wr W7 S7 H6.1)
        have hk7 := Nat.le_trans hk6 (Nat.le_of_eq W7.size.symm)
        have s7_0 := Safe.wr W7 S7 H6.1 s6_0
        have s7_1 := Safe.wr W7 S7 H6.1 s6_1
        have f7_0 := f6_0.wr W7
        have f7_1 := f6_1.wr W7
        have f7_2 := f6_2.other W7 (Or.inl ne_b4_b5)
        have f7_3 := f6_3.other W7 (Or.inl ne_b4_b5)
        have zs7 : h0.size ≤ h7.size := by rw [W7.size]; exact zs6
        have N7 := Fr.snoc X7 N6 sz_b5
        have K7 : Keep h0 h7 [] := K6.wr W7 (Or.inr sz_b5)
        have V7 : Arv Z h7 b5 _ .char (3 : Int32) [(.int ch0), (.int ch1), (.int (0 : Int32))] (.int (0 : Int32)) := (by have q := A7; rw [own_nc (own_c8 hch1)] at q; exact q)
        refine gDup 104 X7 hx (H d12_103) rfl rfl ?_
        refine gIconst 105 X7 hx (v := (2 : Int32)) (H d12_104) rfl rfl ?_
        refine gLoadI 107 X7 hx (H d12_105) rfl rfl ?_
        refine gCastore X7 hx hZ e7 (x := ch2) V7 (j := (2 : Int32)) (by decide) (by decide) 2 (by decide) (by simp) (H d12_107) (pc' := 108) rfl (fun T8 h8 X8 e8 W8 A8 => ?_)
        have S8 := s7_1
        have H8 := H7.trans (CHr.wr W8 S8 H7.1)
        have hk8 := Nat.le_trans hk7 (Nat.le_of_eq W8.size.symm)
        have s8_0 := Safe.wr W8 S8 H7.1 s7_0
        have s8_1 := Safe.wr W8 S8 H7.1 s7_1
        have f8_0 := f7_0.wr W8
        have f8_1 := f7_1.wr W8
        have f8_2 := f7_2.other W8 (Or.inl ne_b4_b5)
        have f8_3 := f7_3.other W8 (Or.inl ne_b4_b5)
        have zs8 : h0.size ≤ h8.size := by rw [W8.size]; exact zs7
        have N8 := Fr.snoc X8 N7 sz_b5
        have K8 : Keep h0 h8 [] := K7.wr W8 (Or.inr sz_b5)
        have V8 : Arv Z h8 b5 _ .char (3 : Int32) [(.int ch0), (.int ch1), (.int ch2)] (.int (0 : Int32)) := (by have q := A8; rw [own_nc (own_c8 hch2)] at q; exact q)
        refine gCallI X8 hx hZ (y := mn9) rfl hown e8 (by rw [hml]; rfl) (ow hw 13 rfl) (ow hw 14 rfl) (ow hw 11 rfl) (ow hw 15 rfl) (by decide) (argsL := [(.ref b5)]) (st := [(.ref b4)]) (c_sinit_3 l Z a0 hw b4 b5 _ h0.size ch0 ch1 ch2 h8 f8_0 sz_b4 zs8 (Ne.symm ne_b4_b5) f8_1 f8_2 f8_3 V8 hch0 hch1 hch2) (lenOf pd_11 rfl) (H d12_108) (pc' := 111) rfl rfl (by decide) (W := 1) (Nat.le_of_eq rfl) (by decide) (by decide) (by decide) ?_
        intro T9 v9 L9 X9 hQ9
        obtain ⟨t9, ct9, rfl, Nq9, Kq9, gt9, Eq9, Cq9, Vq9, Aq9⟩ := hQ9
        have N9 := Fr.app N8 Nq9
        have H9 := H8.trans (CHr.keep Kq9 (sfS s8_0 sf0) H8.1)
        have hk9 := Nat.le_trans hk8 Kq9.1
        have s9_0 := Safe.keep Kq9 (sfS s8_0 sf0) H8.1 s8_0
        have s9_1 := Safe.keep Kq9 (sfS s8_0 sf0) H8.1 s8_1
        have f9_0 := own_cpt_keep f8_0 Kq9 (nsS (Exa.nostat f8_1) ns0)
        have f9_1 := f8_1.keep Kq9
        have f9_4 := V8.keep Kq9 (ninS (Ne.symm ne_b4_b5) nin0)
        have zs9 := Nat.le_trans zs8 Kq9.1
        have K9 : Keep h0 T9.heap [] := K8.trans Kq9 (allS (Or.inr sz_b4) all0)
        exact gRetHA X9 hx hlk hret rfl rfl (H d12_111) rfl hS hk9 hZ hEL H9 (by decide) (by decide) (⟨b4, rfl, sz_b4, N9, K9, by rw [show txt x = [ch0, ch1, ch2] from by rw [txt, txl, if_neg c28, if_neg c44, if_neg c64, hg0, hg1, hg2]]; exact ⟨t9, ct9, Eq9, Cq9, Vq9, Aq9⟩⟩)
      · refine gNew X3 hx hZ hown (ow hw 9 rfl) (ow hw 10 rfl) (ow hw 11 rfl) e3 (H d12_67) (pc' := 70) rfl (by decide) (by decide) (fun T10 h10 b10 X10 e10 g10 E10 A10 D10 => ?_)
        have H10 := H0.trans (CHr.ext E10 H0.1)
        have hk10 := Nat.le_trans (Nat.zero_le _) E10.1
        have s10_b := Safe.ext E10 H0.1 (Safe.new (Nat.le_of_eq g10.symm))
        have f10_0 := hCpt.ext E10
        have sz_b10 : h0.size ≤ b10 := Nat.le_trans (Nat.le_refl _) (Nat.le_of_eq g10.symm)
        have zs10 : h0.size ≤ h10.size := Nat.le_trans (Nat.le_refl _) E10.1
        have K10 : Keep h0 h10 [] := (Keep.refl h0 []).ext E10
        have F10_coder : Fld Z h10 b10 "java/lang/String" "coder" "B" (.int (0 : Int32)) := D10 (Or.inr (ow hw 36 rfl)) (ty := .byte) (by decide)
        have F10_value : Fld Z h10 b10 "java/lang/String" "value" "[B" .null := D10 (Or.inr (ow hw 38 rfl)) (ty := (.array .byte)) (by decide)
        refine gDup 71 X10 hx (H d12_70) rfl rfl ?_
        refine gIconst 72 X10 hx (v := (2 : Int32)) (H d12_71) rfl rfl ?_
        refine gNewP X10 hx hZ (ow hw 12 rfl) e10 (n := (2 : Int32)) (H d12_72) (by decide) (cap := 2) (by decide) (by decide) (by decide) (by decide) 2 (pc' := 74) rfl (fun T11 h11 b11 ck11 X11 e11 g11 E11 A11 => ?_)
        have ne_b10_b11 : b10 ≠ b11 := Nat.ne_of_lt (Nat.lt_of_lt_of_eq A10.lt g11.symm)
        have H11 := H10.trans (CHr.ext E11 H10.1)
        have hk11 := Nat.le_trans hk10 E11.1
        have s11_0 := Safe.ext E11 H10.1 s10_b
        have s11_b := Safe.ext E11 H10.1 (Safe.new (Nat.le_of_eq g11.symm))
        have f11_0 := f10_0.ext E11
        have f11_1 := A10.ext E11
        have f11_2 := F10_coder.ext E11
        have f11_3 := F10_value.ext E11
        have sz_b11 : h0.size ≤ b11 := Nat.le_trans zs10 (Nat.le_of_eq g11.symm)
        have zs11 : h0.size ≤ h11.size := Nat.le_trans zs10 E11.1
        have K11 : Keep h0 h11 [] := K10.ext E11
        have V11 : Arv Z h11 b11 ck11 .char (2 : Int32) [(.int (0 : Int32)), (.int (0 : Int32))] (.int (0 : Int32)) := A11
        refine gDup 75 X11 hx (H d12_74) rfl rfl ?_
        refine gIconst 76 X11 hx (v := (0 : Int32)) (H d12_75) rfl rfl ?_
        refine gLoadIN 77 X11 hx (H d12_76) rfl rfl ?_
        refine gCastore X11 hx hZ e11 (x := ch0) V11 (j := (0 : Int32)) (by decide) (by decide) 0 (by decide) (by simp) (H d12_77) (pc' := 78) rfl (fun T12 h12 X12 e12 W12 A12 => ?_)
        have S12 := s11_b
        have H12 := H11.trans (CHr.wr W12 S12 H11.1)
        have hk12 := Nat.le_trans hk11 (Nat.le_of_eq W12.size.symm)
        have s12_0 := Safe.wr W12 S12 H11.1 s11_0
        have s12_1 := Safe.wr W12 S12 H11.1 s11_b
        have f12_0 := f11_0.wr W12
        have f12_1 := f11_1.wr W12
        have f12_2 := f11_2.other W12 (Or.inl ne_b10_b11)
        have f12_3 := f11_3.other W12 (Or.inl ne_b10_b11)
        have zs12 : h0.size ≤ h12.size := by rw [W12.size]; exact zs11
        have N12 := Fr.snoc X12 (Fr.nil h0.size) sz_b11
        have K12 : Keep h0 h12 [] := K11.wr W12 (Or.inr sz_b11)
        have V12 : Arv Z h12 b11 _ .char (2 : Int32) [(.int ch0), (.int (0 : Int32))] (.int (0 : Int32)) := (by have q := A12; rw [own_nc (own_c8 hch0)] at q; exact q)
        refine gDup 79 X12 hx (H d12_78) rfl rfl ?_
        refine gIconst 80 X12 hx (v := (1 : Int32)) (H d12_79) rfl rfl ?_
        refine gLoadI 82 X12 hx (H d12_80) rfl rfl ?_
        refine gCastore X12 hx hZ e12 (x := ch1) V12 (j := (1 : Int32)) (by decide) (by decide) 1 (by decide) (by simp) (H d12_82) (pc' := 83) rfl (fun T13 h13 X13 e13 W13 A13 => ?_)
        have S13 := s12_1
        have H13 := H12.trans (CHr.wr W13 S13 H12.1)
        have hk13 := Nat.le_trans hk12 (Nat.le_of_eq W13.size.symm)
        have s13_0 := Safe.wr W13 S13 H12.1 s12_0
        have s13_1 := Safe.wr W13 S13 H12.1 s12_1
        have f13_0 := f12_0.wr W13
        have f13_1 := f12_1.wr W13
        have f13_2 := f12_2.other W13 (Or.inl ne_b10_b11)
        have f13_3 := f12_3.other W13 (Or.inl ne_b10_b11)
        have zs13 : h0.size ≤ h13.size := by rw [W13.size]; exact zs12
        have N13 := Fr.snoc X13 N12 sz_b11
        have K13 : Keep h0 h13 [] := K12.wr W13 (Or.inr sz_b11)
        have V13 : Arv Z h13 b11 _ .char (2 : Int32) [(.int ch0), (.int ch1)] (.int (0 : Int32)) := (by have q := A13; rw [own_nc (own_c8 hch1)] at q; exact q)
        refine gCallI X13 hx hZ (y := mn9) rfl hown e13 (by rw [hml]; rfl) (ow hw 13 rfl) (ow hw 14 rfl) (ow hw 11 rfl) (ow hw 15 rfl) (by decide) (argsL := [(.ref b11)]) (st := [(.ref b10)]) (c_sinit_2 l Z a0 hw b10 b11 _ h0.size ch0 ch1 h13 f13_0 sz_b10 zs13 (Ne.symm ne_b10_b11) f13_1 f13_2 f13_3 V13 hch0 hch1) (lenOf pd_11 rfl) (H d12_83) (pc' := 86) rfl rfl (by decide) (W := 1) (Nat.le_of_eq rfl) (by decide) (by decide) (by decide) ?_
        intro T14 v14 L14 X14 hQ14
        obtain ⟨t14, ct14, rfl, Nq14, Kq14, gt14, Eq14, Cq14, Vq14, Aq14⟩ := hQ14
        have N14 := Fr.app N13 Nq14
        have H14 := H13.trans (CHr.keep Kq14 (sfS s13_0 sf0) H13.1)
        have hk14 := Nat.le_trans hk13 Kq14.1
        have s14_0 := Safe.keep Kq14 (sfS s13_0 sf0) H13.1 s13_0
        have s14_1 := Safe.keep Kq14 (sfS s13_0 sf0) H13.1 s13_1
        have f14_0 := own_cpt_keep f13_0 Kq14 (nsS (Exa.nostat f13_1) ns0)
        have f14_1 := f13_1.keep Kq14
        have f14_4 := V13.keep Kq14 (ninS (Ne.symm ne_b10_b11) nin0)
        have zs14 := Nat.le_trans zs13 Kq14.1
        have K14 : Keep h0 T14.heap [] := K13.trans Kq14 (allS (Or.inr sz_b10) all0)
        exact gRetHA X14 hx hlk hret rfl rfl (H d12_86) rfl hS hk14 hZ hEL H14 (by decide) (by decide) (⟨b10, rfl, sz_b10, N14, K14, by rw [show txt x = [ch0, ch1] from by rw [txt, txl, if_neg c28, if_neg c44, if_pos c64, hg0, hg1]]; exact ⟨t14, ct14, Eq14, Cq14, Vq14, Aq14⟩⟩)
    · refine gNew X3 hx hZ hown (ow hw 9 rfl) (ow hw 10 rfl) (ow hw 11 rfl) e3 (H d12_47) (pc' := 50) rfl (by decide) (by decide) (fun T15 h15 b15 X15 e15 g15 E15 A15 D15 => ?_)
      have H15 := H0.trans (CHr.ext E15 H0.1)
      have hk15 := Nat.le_trans (Nat.zero_le _) E15.1
      have s15_b := Safe.ext E15 H0.1 (Safe.new (Nat.le_of_eq g15.symm))
      have f15_0 := hCpt.ext E15
      have sz_b15 : h0.size ≤ b15 := Nat.le_trans (Nat.le_refl _) (Nat.le_of_eq g15.symm)
      have zs15 : h0.size ≤ h15.size := Nat.le_trans (Nat.le_refl _) E15.1
      have K15 : Keep h0 h15 [] := (Keep.refl h0 []).ext E15
      have F15_coder : Fld Z h15 b15 "java/lang/String" "coder" "B" (.int (0 : Int32)) := D15 (Or.inr (ow hw 36 rfl)) (ty := .byte) (by decide)
      have F15_value : Fld Z h15 b15 "java/lang/String" "value" "[B" .null := D15 (Or.inr (ow hw 38 rfl)) (ty := (.array .byte)) (by decide)
      refine gDup 51 X15 hx (H d12_50) rfl rfl ?_
      refine gIconst 52 X15 hx (v := (1 : Int32)) (H d12_51) rfl rfl ?_
      refine gNewP X15 hx hZ (ow hw 12 rfl) e15 (n := (1 : Int32)) (H d12_52) (by decide) (cap := 1) (by decide) (by decide) (by decide) (by decide) 1 (pc' := 54) rfl (fun T16 h16 b16 ck16 X16 e16 g16 E16 A16 => ?_)
      have ne_b15_b16 : b15 ≠ b16 := Nat.ne_of_lt (Nat.lt_of_lt_of_eq A15.lt g16.symm)
      have H16 := H15.trans (CHr.ext E16 H15.1)
      have hk16 := Nat.le_trans hk15 E16.1
      have s16_0 := Safe.ext E16 H15.1 s15_b
      have s16_b := Safe.ext E16 H15.1 (Safe.new (Nat.le_of_eq g16.symm))
      have f16_0 := f15_0.ext E16
      have f16_1 := A15.ext E16
      have f16_2 := F15_coder.ext E16
      have f16_3 := F15_value.ext E16
      have sz_b16 : h0.size ≤ b16 := Nat.le_trans zs15 (Nat.le_of_eq g16.symm)
      have zs16 : h0.size ≤ h16.size := Nat.le_trans zs15 E16.1
      have K16 : Keep h0 h16 [] := K15.ext E16
      have V16 : Arv Z h16 b16 ck16 .char (1 : Int32) [(.int (0 : Int32))] (.int (0 : Int32)) := A16
      refine gDup 55 X16 hx (H d12_54) rfl rfl ?_
      refine gIconst 56 X16 hx (v := (0 : Int32)) (H d12_55) rfl rfl ?_
      refine gLoadIN 57 X16 hx (H d12_56) rfl rfl ?_
      refine gCastore X16 hx hZ e16 (x := ch0) V16 (j := (0 : Int32)) (by decide) (by decide) 0 (by decide) (by simp) (H d12_57) (pc' := 58) rfl (fun T17 h17 X17 e17 W17 A17 => ?_)
      have S17 := s16_b
      have H17 := H16.trans (CHr.wr W17 S17 H16.1)
      have hk17 := Nat.le_trans hk16 (Nat.le_of_eq W17.size.symm)
      have s17_0 := Safe.wr W17 S17 H16.1 s16_0
      have s17_1 := Safe.wr W17 S17 H16.1 s16_b
      have f17_0 := f16_0.wr W17
      have f17_1 := f16_1.wr W17
      have f17_2 := f16_2.other W17 (Or.inl ne_b15_b16)
      have f17_3 := f16_3.other W17 (Or.inl ne_b15_b16)
      have zs17 : h0.size ≤ h17.size := by rw [W17.size]; exact zs16
      have N17 := Fr.snoc X17 (Fr.nil h0.size) sz_b16
      have K17 : Keep h0 h17 [] := K16.wr W17 (Or.inr sz_b16)
      have V17 : Arv Z h17 b16 _ .char (1 : Int32) [(.int ch0)] (.int (0 : Int32)) := (by have q := A17; rw [own_nc (own_c8 hch0)] at q; exact q)
      refine gCallI X17 hx hZ (y := mn9) rfl hown e17 (by rw [hml]; rfl) (ow hw 13 rfl) (ow hw 14 rfl) (ow hw 11 rfl) (ow hw 15 rfl) (by decide) (argsL := [(.ref b16)]) (st := [(.ref b15)]) (c_sinit_1 l Z a0 hw b15 b16 _ h0.size ch0 h17 f17_0 sz_b15 zs17 (Ne.symm ne_b15_b16) f17_1 f17_2 f17_3 V17 hch0) (lenOf pd_11 rfl) (H d12_58) (pc' := 61) rfl rfl (by decide) (W := 1) (Nat.le_of_eq rfl) (by decide) (by decide) (by decide) ?_
      intro T18 v18 L18 X18 hQ18
      obtain ⟨t18, ct18, rfl, Nq18, Kq18, gt18, Eq18, Cq18, Vq18, Aq18⟩ := hQ18
      have N18 := Fr.app N17 Nq18
      have H18 := H17.trans (CHr.keep Kq18 (sfS s17_0 sf0) H17.1)
      have hk18 := Nat.le_trans hk17 Kq18.1
      have s18_0 := Safe.keep Kq18 (sfS s17_0 sf0) H17.1 s17_0
      have s18_1 := Safe.keep Kq18 (sfS s17_0 sf0) H17.1 s17_1
      have f18_0 := own_cpt_keep f17_0 Kq18 (nsS (Exa.nostat f17_1) ns0)
      have f18_1 := f17_1.keep Kq18
      have f18_4 := V17.keep Kq18 (ninS (Ne.symm ne_b15_b16) nin0)
      have zs18 := Nat.le_trans zs17 Kq18.1
      have K18 : Keep h0 T18.heap [] := K17.trans Kq18 (allS (Or.inr sz_b15) all0)
      exact gRetHA X18 hx hlk hret rfl rfl (H d12_61) rfl hS hk18 hZ hEL H18 (by decide) (by decide) (⟨b15, rfl, sz_b15, N18, K18, by rw [show txt x = [ch0] from by rw [txt, txl, if_neg c28, if_pos c44, hg0]]; exact ⟨t18, ct18, Eq18, Cq18, Vq18, Aq18⟩⟩)
  · refine gNew X3 hx hZ hown (ow hw 9 rfl) (ow hw 10 rfl) (ow hw 11 rfl) e3 (H d12_31) (pc' := 34) rfl (by decide) (by decide) (fun T19 h19 b19 X19 e19 g19 E19 A19 D19 => ?_)
    have H19 := H0.trans (CHr.ext E19 H0.1)
    have hk19 := Nat.le_trans (Nat.zero_le _) E19.1
    have s19_b := Safe.ext E19 H0.1 (Safe.new (Nat.le_of_eq g19.symm))
    have f19_0 := hCpt.ext E19
    have sz_b19 : h0.size ≤ b19 := Nat.le_trans (Nat.le_refl _) (Nat.le_of_eq g19.symm)
    have zs19 : h0.size ≤ h19.size := Nat.le_trans (Nat.le_refl _) E19.1
    have K19 : Keep h0 h19 [] := (Keep.refl h0 []).ext E19
    have F19_coder : Fld Z h19 b19 "java/lang/String" "coder" "B" (.int (0 : Int32)) := D19 (Or.inr (ow hw 36 rfl)) (ty := .byte) (by decide)
    have F19_value : Fld Z h19 b19 "java/lang/String" "value" "[B" .null := D19 (Or.inr (ow hw 38 rfl)) (ty := (.array .byte)) (by decide)
    refine gDup 35 X19 hx (H d12_34) rfl rfl ?_
    refine gIconst 36 X19 hx (v := (0 : Int32)) (H d12_35) rfl rfl ?_
    refine gNewP X19 hx hZ (ow hw 12 rfl) e19 (n := (0 : Int32)) (H d12_36) (by decide) (cap := 0) (by decide) (by decide) (by decide) (by decide) 0 (pc' := 38) rfl (fun T20 h20 b20 ck20 X20 e20 g20 E20 A20 => ?_)
    have ne_b19_b20 : b19 ≠ b20 := Nat.ne_of_lt (Nat.lt_of_lt_of_eq A19.lt g20.symm)
    have H20 := H19.trans (CHr.ext E20 H19.1)
    have hk20 := Nat.le_trans hk19 E20.1
    have s20_0 := Safe.ext E20 H19.1 s19_b
    have s20_b := Safe.ext E20 H19.1 (Safe.new (Nat.le_of_eq g20.symm))
    have f20_0 := f19_0.ext E20
    have f20_1 := A19.ext E20
    have f20_2 := F19_coder.ext E20
    have f20_3 := F19_value.ext E20
    have sz_b20 : h0.size ≤ b20 := Nat.le_trans zs19 (Nat.le_of_eq g20.symm)
    have zs20 : h0.size ≤ h20.size := Nat.le_trans zs19 E20.1
    have K20 : Keep h0 h20 [] := K19.ext E20
    have V20 : Arv Z h20 b20 ck20 .char (0 : Int32) [] (.int (0 : Int32)) := A20
    refine gCallIH X20 hx hZ (y := mn9) rfl hown e20 (by rw [hml]; rfl) hS hk20 hEL H20 (ow hw 13 rfl) (ow hw 14 rfl) (ow hw 11 rfl) (ow hw 15 rfl) (by decide) (sl1 f20_1.lt s20_0) (argsL := [(.ref b20)]) (st := [(.ref b19)]) (c_sinit_0 l Z a0 hw b19 b20 _ h0.size h20 hEL sz_b19 f20_1 f20_2 f20_3 V20) (lenOf pd_11 rfl) (H d12_38) (pc' := 41) rfl rfl (by decide) (W := 1) (Nat.le_of_eq rfl) (by decide) (by decide) (by decide) ?_
    intro T21 v21 L21 X21 hS hZ hown C21 H21 hQ21
    have s21_0 := C21.safe f20_1.lt s20_0
    have s21_1 := C21.safe V20.lt s20_b
    obtain ⟨t21, ct21, rfl, Nq21, Kq21, Eq21, Cq21, Vq21, Aq21⟩ := hQ21
    have N21 := Fr.app (Fr.nil h0.size) Nq21
    have f21_0 := own_cpt_keep f20_0 Kq21 (nsS (Exa.nostat f20_1) ns0)
    have f21_1 := f20_1.keep Kq21
    have f21_4 := V20.keep Kq21 (ninS (Ne.symm ne_b19_b20) nin0)
    have zs21 := Nat.le_trans zs20 Kq21.1
    have K21 : Keep h0 T21.heap [] := K20.trans Kq21 (allS (Or.inr sz_b19) all0)
    exact gRetHA X21 hx hlk hret rfl rfl (H d12_41) rfl hS (Nat.le_refl _) hZ hEL H21 (by decide) (by decide) (⟨b19, rfl, sz_b19, N21, K21, by rw [show txt x = [] from by rw [txt, txl, if_pos c28]]; exact ⟨t21, ct21, Eq21, Cq21, Vq21, Aq21⟩⟩)
theorem d9_0 : decode method_3_code 0 = .ok (.iload_n 0, 1) := by decide +kernel
theorem d9_1 : decode method_3_code 1 = .ok (.ifCond .ne 7, 3) := by decide +kernel
theorem d9_8 : decode method_3_code 8 = .ok (.iload_n 0, 1) := by decide +kernel
theorem d9_9 : decode method_3_code 9 = .ok (.iconst 1, 1) := by decide +kernel
theorem d9_10 : decode method_3_code 10 = .ok (.if_icmp .ne 7, 3) := by decide +kernel
theorem d9_17 : decode method_3_code 17 = .ok (.getstatic 43, 3) := by decide +kernel
theorem d9_20 : decode method_3_code 20 = .ok (.areturn, 1) := by decide +kernel
theorem d9_13 : decode method_3_code 13 = .ok (.getstatic 40, 3) := by decide +kernel
theorem d9_16 : decode method_3_code 16 = .ok (.areturn, 1) := by decide +kernel
theorem d9_4 : decode method_3_code 4 = .ok (.getstatic 34, 3) := by decide +kernel
theorem d9_7 : decode method_3_code 7 = .ok (.areturn, 1) := by decide +kernel
abbrev mn3 : MethodName := ⟨"com/example/strict_chain/strictchain/FindingEqualsPinLaw", "kind", "(I)Lcom/example/strict_chain/strictchain/Finding$Kind;"⟩
theorem c_kd (l : Launch) (Z : State) (a0 : Array Value) (hw : ∀ d ∈ tables_1, d.before a0 Z = true) (i : Int32) (a_INVALID a_NOT_PORTABLE a_SUSPICIOUS z : Addr) (hz : z = kd i a_INVALID a_NOT_PORTABLE a_SUSPICIOUS) (h0 : Heap) (S_INVALID : Sta Z h0 "com/example/strict_chain/strictchain/Finding$Kind" "INVALID" "Lcom/example/strict_chain/strictchain/Finding$Kind;" (.ref a_INVALID)) (S_NOT_PORTABLE : Sta Z h0 "com/example/strict_chain/strictchain/Finding$Kind" "NOT_PORTABLE" "Lcom/example/strict_chain/strictchain/Finding$Kind;" (.ref a_NOT_PORTABLE)) (S_SUSPICIOUS : Sta Z h0 "com/example/strict_chain/strictchain/Finding$Kind" "SUSPICIOUS" "Lcom/example/strict_chain/strictchain/Finding$Kind;" (.ref a_SUSPICIOUS)) :
    Ctr l Z mn3 method_3_code 1 (some (.object "com/example/strict_chain/strictchain/Finding$Kind")) [] ⟨0, 0, 0, 0⟩ #[(.int i)] h0 (Just h0 (.ref z)) := by
  refine Ctr.of (plainFor_of_name pn_1) ?_
  intro p e s m below meth c s₁ hx H hml hret hown hnm hZ hlk X0 e0
  refine Goes.cast (show entryFrame m _ _ = mkF m 0 #[.val (.int i)] [] from rfl) ?_
  refine gLoadIN 1 X0 hx (H d9_0) rfl rfl ?_
  refine gIfNeT X0 hx (H d9_1) (pc' := 8) (by decide) (by decide) (pn := 4) rfl (fun (c1 : ¬ i.toInt = (0 : Int)) => ?_) (fun (c1 : i.toInt = (0 : Int)) => ?_)
  · refine gLoadIN 9 X0 hx (H d9_8) rfl rfl ?_
    refine gIconst 10 X0 hx (v := (1 : Int32)) (H d9_9) rfl rfl ?_
    refine gIcmpNeT X0 hx (H d9_10) (pc' := 17) (by decide) (by decide) (pn := 13) rfl (fun (c10 : ¬ i.toInt = (1 : Int)) => ?_) (fun (c10 : i.toInt = (1 : Int)) => ?_)
    · refine gGetS X0 hx hZ hown (ow hw 101 rfl) Via.refl e0 S_SUSPICIOUS (H d9_17) (pc' := 20) rfl (fun T1 X1 e1 => ?_)
      exact gRetA X1 hx hlk hret rfl rfl (H d9_20) (by decide) (by decide) (⟨by rw [hz, kd, if_neg c1, if_neg c10], e1, rfl⟩)
    · refine gGetS X0 hx hZ hown (ow hw 103 rfl) Via.refl e0 S_NOT_PORTABLE (H d9_13) (pc' := 16) rfl (fun T2 X2 e2 => ?_)
      exact gRetA X2 hx hlk hret rfl rfl (H d9_16) (by decide) (by decide) (⟨by rw [hz, kd, if_neg c1, if_pos c10], e2, rfl⟩)
  · refine gGetS X0 hx hZ hown (ow hw 45 rfl) Via.refl e0 S_INVALID (H d9_4) (pc' := 7) rfl (fun T3 X3 e3 => ?_)
    exact gRetA X3 hx hlk hret rfl rfl (H d9_7) (by decide) (by decide) (⟨by rw [hz, kd, if_pos c1], e3, rfl⟩)
theorem d10_0 : decode method_4_code 0 = .ok (.iload_n 0, 1) := by decide +kernel
theorem d10_1 : decode method_4_code 1 = .ok (.ifCond .ne 7, 3) := by decide +kernel
theorem d10_8 : decode method_4_code 8 = .ok (.iload_n 0, 1) := by decide +kernel
theorem d10_9 : decode method_4_code 9 = .ok (.iconst 1, 1) := by decide +kernel
theorem d10_10 : decode method_4_code 10 = .ok (.if_icmp .ne 7, 3) := by decide +kernel
theorem d10_17 : decode method_4_code 17 = .ok (.iload_n 0, 1) := by decide +kernel
theorem d10_18 : decode method_4_code 18 = .ok (.iconst 2, 1) := by decide +kernel
theorem d10_19 : decode method_4_code 19 = .ok (.if_icmp .ne 7, 3) := by decide +kernel
theorem d10_26 : decode method_4_code 26 = .ok (.iload_n 0, 1) := by decide +kernel
theorem d10_27 : decode method_4_code 27 = .ok (.iconst 3, 1) := by decide +kernel
theorem d10_28 : decode method_4_code 28 = .ok (.if_icmp .ne 7, 3) := by decide +kernel
theorem d10_35 : decode method_4_code 35 = .ok (.getstatic 61, 3) := by decide +kernel
theorem d10_38 : decode method_4_code 38 = .ok (.areturn, 1) := by decide +kernel
theorem d10_31 : decode method_4_code 31 = .ok (.getstatic 58, 3) := by decide +kernel
theorem d10_34 : decode method_4_code 34 = .ok (.areturn, 1) := by decide +kernel
theorem d10_22 : decode method_4_code 22 = .ok (.getstatic 55, 3) := by decide +kernel
theorem d10_25 : decode method_4_code 25 = .ok (.areturn, 1) := by decide +kernel
theorem d10_13 : decode method_4_code 13 = .ok (.getstatic 52, 3) := by decide +kernel
theorem d10_16 : decode method_4_code 16 = .ok (.areturn, 1) := by decide +kernel
theorem d10_4 : decode method_4_code 4 = .ok (.getstatic 46, 3) := by decide +kernel
theorem d10_7 : decode method_4_code 7 = .ok (.areturn, 1) := by decide +kernel
abbrev mn6 : MethodName := ⟨"com/example/strict_chain/strictchain/FindingEqualsPinLaw", "subject", "(I)Lcom/example/strict_chain/strictchain/Finding$Subject;"⟩
theorem c_sd (l : Launch) (Z : State) (a0 : Array Value) (hw : ∀ d ∈ tables_1, d.before a0 Z = true) (i : Int32) (a_FILTER a_SERVLET a_SERVLET_MAPPING a_ERROR_PAGE a_WELCOME_FILE z : Addr) (hz : z = sd i a_FILTER a_SERVLET a_SERVLET_MAPPING a_ERROR_PAGE a_WELCOME_FILE) (h0 : Heap) (S_FILTER : Sta Z h0 "com/example/strict_chain/strictchain/Finding$Subject" "FILTER" "Lcom/example/strict_chain/strictchain/Finding$Subject;" (.ref a_FILTER)) (S_SERVLET : Sta Z h0 "com/example/strict_chain/strictchain/Finding$Subject" "SERVLET" "Lcom/example/strict_chain/strictchain/Finding$Subject;" (.ref a_SERVLET)) (S_SERVLET_MAPPING : Sta Z h0 "com/example/strict_chain/strictchain/Finding$Subject" "SERVLET_MAPPING" "Lcom/example/strict_chain/strictchain/Finding$Subject;" (.ref a_SERVLET_MAPPING)) (S_ERROR_PAGE : Sta Z h0 "com/example/strict_chain/strictchain/Finding$Subject" "ERROR_PAGE" "Lcom/example/strict_chain/strictchain/Finding$Subject;" (.ref a_ERROR_PAGE)) (S_WELCOME_FILE : Sta Z h0 "com/example/strict_chain/strictchain/Finding$Subject" "WELCOME_FILE" "Lcom/example/strict_chain/strictchain/Finding$Subject;" (.ref a_WELCOME_FILE)) :
    Ctr l Z mn6 method_4_code 1 (some (.object "com/example/strict_chain/strictchain/Finding$Subject")) [] ⟨0, 0, 0, 0⟩ #[(.int i)] h0 (Just h0 (.ref z)) := by
  refine Ctr.of (plainFor_of_name pn_1) ?_
  intro p e s m below meth c s₁ hx H hml hret hown hnm hZ hlk X0 e0
  refine Goes.cast (show entryFrame m _ _ = mkF m 0 #[.val (.int i)] [] from rfl) ?_
  refine gLoadIN 1 X0 hx (H d10_0) rfl rfl ?_
  refine gIfNeT X0 hx (H d10_1) (pc' := 8) (by decide) (by decide) (pn := 4) rfl (fun (c1 : ¬ i.toInt = (0 : Int)) => ?_) (fun (c1 : i.toInt = (0 : Int)) => ?_)
  · refine gLoadIN 9 X0 hx (H d10_8) rfl rfl ?_
    refine gIconst 10 X0 hx (v := (1 : Int32)) (H d10_9) rfl rfl ?_
    refine gIcmpNeT X0 hx (H d10_10) (pc' := 17) (by decide) (by decide) (pn := 13) rfl (fun (c10 : ¬ i.toInt = (1 : Int)) => ?_) (fun (c10 : i.toInt = (1 : Int)) => ?_)
    · refine gLoadIN 18 X0 hx (H d10_17) rfl rfl ?_
      refine gIconst 19 X0 hx (v := (2 : Int32)) (H d10_18) rfl rfl ?_
      refine gIcmpNeT X0 hx (H d10_19) (pc' := 26) (by decide) (by decide) (pn := 22) rfl (fun (c19 : ¬ i.toInt = (2 : Int)) => ?_) (fun (c19 : i.toInt = (2 : Int)) => ?_)
      · refine gLoadIN 27 X0 hx (H d10_26) rfl rfl ?_
        refine gIconst 28 X0 hx (v := (3 : Int32)) (H d10_27) rfl rfl ?_
        refine gIcmpNeT X0 hx (H d10_28) (pc' := 35) (by decide) (by decide) (pn := 31) rfl (fun (c28 : ¬ i.toInt = (3 : Int)) => ?_) (fun (c28 : i.toInt = (3 : Int)) => ?_)
        · refine gGetS X0 hx hZ hown (ow hw 110 rfl) Via.refl e0 S_WELCOME_FILE (H d10_35) (pc' := 38) rfl (fun T1 X1 e1 => ?_)
          exact gRetA X1 hx hlk hret rfl rfl (H d10_38) (by decide) (by decide) (⟨by rw [hz, sd, if_neg c1, if_neg c10, if_neg c19, if_neg c28], e1, rfl⟩)
        · refine gGetS X0 hx hZ hown (ow hw 105 rfl) Via.refl e0 S_ERROR_PAGE (H d10_31) (pc' := 34) rfl (fun T2 X2 e2 => ?_)
          exact gRetA X2 hx hlk hret rfl rfl (H d10_34) (by decide) (by decide) (⟨by rw [hz, sd, if_neg c1, if_neg c10, if_neg c19, if_pos c28], e2, rfl⟩)
      · refine gGetS X0 hx hZ hown (ow hw 108 rfl) Via.refl e0 S_SERVLET_MAPPING (H d10_22) (pc' := 25) rfl (fun T3 X3 e3 => ?_)
        exact gRetA X3 hx hlk hret rfl rfl (H d10_25) (by decide) (by decide) (⟨by rw [hz, sd, if_neg c1, if_neg c10, if_pos c19], e3, rfl⟩)
    · refine gGetS X0 hx hZ hown (ow hw 112 rfl) Via.refl e0 S_SERVLET (H d10_13) (pc' := 16) rfl (fun T4 X4 e4 => ?_)
      exact gRetA X4 hx hlk hret rfl rfl (H d10_16) (by decide) (by decide) (⟨by rw [hz, sd, if_neg c1, if_pos c10], e4, rfl⟩)
  · refine gGetS X0 hx hZ hown (ow hw 51 rfl) Via.refl e0 S_FILTER (H d10_4) (pc' := 7) rfl (fun T5 X5 e5 => ?_)
    exact gRetA X5 hx hlk hret rfl rfl (H d10_7) (by decide) (by decide) (⟨by rw [hz, sd, if_pos c1], e5, rfl⟩)
theorem d1_0 : decode jdk_31_method_11_code 0 = .ok (.aload_n 0, 1) := by decide +kernel
theorem d1_1 : decode jdk_31_method_11_code 1 = .ok (.ifnonnull 12, 3) := by decide +kernel
theorem d1_13 : decode jdk_31_method_11_code 13 = .ok (.aload_n 0, 1) := by decide +kernel
theorem d1_14 : decode jdk_31_method_11_code 14 = .ok (.areturn, 1) := by decide +kernel
abbrev mn16 : MethodName := ⟨"java/util/Objects", "requireNonNull", "(Ljava/lang/Object;Ljava/lang/String;)Ljava/lang/Object;"⟩
theorem pn_6 : plainName "java/util/Objects" = true := by first | (simp [plainName, overriddenIn]; done) | decide +kernel
theorem c_rnn (l : Launch) (Z : State) (a0 : Array Value) (hw : ∀ d ∈ tables_1, d.before a0 Z = true) (a b : Addr) (h0 : Heap)  :
    Ctr l Z mn16 jdk_31_method_11_code 2 (some (.object "java/lang/Object")) [] ⟨0, 0, 0, 0⟩ #[(.ref a), (.ref b)] h0 (Just h0 (.ref a)) := by
  refine Ctr.of (plainFor_of_name pn_6) ?_
  intro p e s m below meth c s₁ hx H hml hret hown hnm hZ hlk X0 e0
  refine Goes.cast (show entryFrame m _ _ = mkF m 0 #[.val (.ref a), .val (.ref b)] [] from rfl) ?_
  refine gLoadAN 1 X0 hx (H d1_0) rfl rfl rfl ?_
  refine gIfnonnullR X0 hx (H d1_1) (pc' := 13) (by decide) (by decide) ?_
  refine gLoadAN 14 X0 hx (H d1_13) rfl rfl rfl ?_
  exact gRetA X0 hx hlk hret rfl rfl (H d1_14) (by decide) (by decide) (⟨rfl, e0, rfl⟩)
theorem d15_0 : decode prog_5_method_1_code 0 = .ok (.aload_n 0, 1) := by decide +kernel
theorem d15_1 : decode prog_5_method_1_code 1 = .ok (.invokespecial 1, 3) := by decide +kernel
theorem d15_4 : decode prog_5_method_1_code 4 = .ok (.aload_n 0, 1) := by decide +kernel
theorem d15_5 : decode prog_5_method_1_code 5 = .ok (.aload_n 1, 1) := by decide +kernel
theorem d15_6 : decode prog_5_method_1_code 6 = .ok (.ldc 7, 2) := by decide +kernel
theorem d15_8 : decode prog_5_method_1_code 8 = .ok (.invokestatic 9, 3) := by decide +kernel
theorem pd_8 : parseMethodDescriptor "(Ljava/lang/Object;Ljava/lang/String;)Ljava/lang/Object;" = some ⟨[(.object "java/lang/Object"), (.object "java/lang/String")], some (.object "java/lang/Object")⟩ := by decide +kernel
theorem d15_11 : decode prog_5_method_1_code 11 = .ok (.checkcast 15, 3) := by decide +kernel
theorem d15_14 : decode prog_5_method_1_code 14 = .ok (.putfield 17, 3) := by decide +kernel
theorem d15_17 : decode prog_5_method_1_code 17 = .ok (.aload_n 0, 1) := by decide +kernel
theorem d15_18 : decode prog_5_method_1_code 18 = .ok (.aload_n 2, 1) := by decide +kernel
theorem d15_19 : decode prog_5_method_1_code 19 = .ok (.ldc 22, 2) := by decide +kernel
theorem d15_21 : decode prog_5_method_1_code 21 = .ok (.invokestatic 9, 3) := by decide +kernel
theorem d15_24 : decode prog_5_method_1_code 24 = .ok (.checkcast 24, 3) := by decide +kernel
theorem d15_27 : decode prog_5_method_1_code 27 = .ok (.putfield 26, 3) := by decide +kernel
theorem d15_30 : decode prog_5_method_1_code 30 = .ok (.aload_n 0, 1) := by decide +kernel
theorem d15_31 : decode prog_5_method_1_code 31 = .ok (.aload_n 3, 1) := by decide +kernel
theorem d15_32 : decode prog_5_method_1_code 32 = .ok (.ldc 29, 2) := by decide +kernel
theorem d15_34 : decode prog_5_method_1_code 34 = .ok (.invokestatic 9, 3) := by decide +kernel
theorem d15_37 : decode prog_5_method_1_code 37 = .ok (.checkcast 31, 3) := by decide +kernel
theorem d15_40 : decode prog_5_method_1_code 40 = .ok (.putfield 33, 3) := by decide +kernel
theorem d15_43 : decode prog_5_method_1_code 43 = .ok (.aload_n 0, 1) := by decide +kernel
theorem d15_44 : decode prog_5_method_1_code 44 = .ok (.aload 4, 2) := by decide +kernel
theorem d15_46 : decode prog_5_method_1_code 46 = .ok (.ldc 36, 2) := by decide +kernel
theorem d15_48 : decode prog_5_method_1_code 48 = .ok (.invokestatic 9, 3) := by decide +kernel
theorem d15_51 : decode prog_5_method_1_code 51 = .ok (.checkcast 31, 3) := by decide +kernel
theorem d15_54 : decode prog_5_method_1_code 54 = .ok (.putfield 38, 3) := by decide +kernel
theorem d15_57 : decode prog_5_method_1_code 57 = .ok (.return_, 1) := by decide +kernel
abbrev mn0 : MethodName := ⟨"com/example/strict_chain/strictchain/Finding", "<init>", "(Lcom/example/strict_chain/strictchain/Finding$Kind;Lcom/example/strict_chain/strictchain/Finding$Subject;Ljava/lang/String;Ljava/lang/String;)V"⟩
theorem pn_0 : plainName "com/example/strict_chain/strictchain/Finding" = true := by first | (simp [plainName, overriddenIn]; done) | decide +kernel
theorem c_finit (l : Launch) (Z : State) (a0 : Array Value) (hw : ∀ d ∈ tables_1, d.before a0 Z = true) (a k u x y : Addr) (n0 : Nat) (h0 : Heap) (hEL : EW Z a0 [("com/example/strict_chain/strictchain/Finding", 7), ("com/example/strict_chain/strictchain/Finding", 22), ("com/example/strict_chain/strictchain/Finding", 29), ("com/example/strict_chain/strictchain/Finding", 36), ("java/lang/String", 7)]) (ga : n0 ≤ a) (E : Exa Z h0 a "com/example/strict_chain/strictchain/Finding") (F_kind : Fld Z h0 a "com/example/strict_chain/strictchain/Finding" "kind" "Lcom/example/strict_chain/strictchain/Finding$Kind;" .null) (F_subject : Fld Z h0 a "com/example/strict_chain/strictchain/Finding" "subject" "Lcom/example/strict_chain/strictchain/Finding$Subject;" .null) (F_subjectValue : Fld Z h0 a "com/example/strict_chain/strictchain/Finding" "subjectValue" "Ljava/lang/String;" .null) (F_explanation : Fld Z h0 a "com/example/strict_chain/strictchain/Finding" "explanation" "Ljava/lang/String;" .null) (Ek : Exa Z h0 k "com/example/strict_chain/strictchain/Finding$Kind") (Eu : Exa Z h0 u "com/example/strict_chain/strictchain/Finding$Subject") (Ex : Exa Z h0 x "java/lang/String") (Ey : Exa Z h0 y "java/lang/String") :
    CtrH l Z [("com/example/strict_chain/strictchain/Finding", 7), ("com/example/strict_chain/strictchain/Finding", 22), ("com/example/strict_chain/strictchain/Finding", 29), ("com/example/strict_chain/strictchain/Finding", 36), ("java/lang/String", 7)] [] mn0 prog_5_method_1_code 5 none [] ⟨1, 8, 152, 16⟩ #[(.ref a), (.ref k), (.ref u), (.ref x), (.ref y)] h0 (fun v h L => v = none ∧ Fr n0 L ∧ Keep h0 h [a] ∧ Exa Z h a "com/example/strict_chain/strictchain/Finding" ∧ Fld Z h a "com/example/strict_chain/strictchain/Finding" "kind" "Lcom/example/strict_chain/strictchain/Finding$Kind;" (.ref k) ∧ Fld Z h a "com/example/strict_chain/strictchain/Finding" "subject" "Lcom/example/strict_chain/strictchain/Finding$Subject;" (.ref u) ∧ Fld Z h a "com/example/strict_chain/strictchain/Finding" "subjectValue" "Ljava/lang/String;" (.ref x) ∧ Fld Z h a "com/example/strict_chain/strictchain/Finding" "explanation" "Ljava/lang/String;" (.ref y)) := by
  refine CtrH.of (plainFor_of_name pn_0) ?_
  intro p e s m below meth c s₁ hx H hml hret hown hnm hZ hlk X0 e0 hS H0 hSafe
  have wS : ∀ a ∈ Bundle.stringAtoms, a.before a0 Z = true := by
    intro d hd
    simp only [Bundle.stringAtoms, Bundle.sN, List.mem_cons, List.not_mem_nil, or_false] at hd
    rcases hd with rfl | rfl | rfl | rfl | rfl | rfl | rfl
    · exact (ow hw 11 rfl)
    · exact (ow hw 10 rfl)
    · exact (ow hw 28 rfl)
    · exact (ow hw 38 rfl)
    · exact (ow hw 36 rfl)
    · exact (ow hw 59 rfl)
    · exact (ow hw 60 rfl)
  refine Goes.cast (show entryFrame m _ _ = mkF m 0 #[.val (.ref a), .val (.ref k), .val (.ref u), .val (.ref x), .val (.ref y)] [] from rfl) ?_
  refine gLoadAN 1 X0 hx (H d15_0) rfl rfl rfl ?_
  refine gInitO X0 hx hZ hown (ow hw 57 rfl) (ow hw 21 rfl) (ow hw 22 rfl) e0 (by rw [hml]; rfl) (H d15_1) (pc' := 4) rfl (by decide) (W := 0) (Nat.le_of_eq rfl) (by decide) (fun T1 X1 e1 => ?_)
  refine gLoadAN 5 X1 hx (H d15_4) rfl rfl rfl ?_
  refine gLoadAN 6 X1 hx (H d15_5) rfl rfl rfl ?_
  refine gLdcO X1 hx hZ hown (ow hw 58 rfl) wS e1 hS (Nat.zero_le _) hEL H0 (H d15_6) (pc' := 8) rfl (n := 16) (by decide) (by decide) (by decide) (by decide) (fun a2 T2 h2 k2 X2 e2 E2 hS hk2 hZ hown C2 H2 => ?_)
  have f2_0 := E.ext E2
  have f2_1 := F_kind.ext E2
  have f2_2 := Ek.ext E2
  have f2_3 := F_subject.ext E2
  have f2_4 := Eu.ext E2
  have f2_5 := F_subjectValue.ext E2
  have f2_6 := Ex.ext E2
  have f2_7 := F_explanation.ext E2
  have f2_8 := Ey.ext E2
  have zs2 : h0.size ≤ h2.size := Nat.le_trans (Nat.le_refl _) E2.1
  have K2 : Keep h0 h2 [a] := (Keep.refl h0 [a]).ext E2
  refine gCallSJ X2 hx hZ (y := mn16) hown e2 (by rw [hml]; rfl) (ow hw 61 rfl) (ow hw 62 rfl) (ow hw 63 rfl) (ow hw 64 rfl) (by decide) (argsL := [(.ref k), (.ref a2)]) (st := [(.ref a)]) (c_rnn l Z a0 hw k a2 h2) (lenOf pd_8 rfl) (H d15_8) (pc' := 11) rfl rfl rfl rfl (by decide) (W := 1) (Nat.le_of_eq rfl) (by decide) (by decide) (by decide) ?_
  intro T3 X3 e3
  refine gCast X3 hx hZ hown (ow hw 65 rfl) e3 (Ins.self f2_2) (H d15_11) (pc' := 14) rfl (fun T4 X4 e4 => ?_)
  refine gPutF X4 hx hZ hown (ow hw 67 rfl) Via.refl e4 f2_1 f2_0 (Or.inr ⟨(ow hw 68 rfl), rfl, hnm⟩) (ow hw 40 rfl) (ty := (.object "com/example/strict_chain/strictchain/Finding$Kind")) (by decide) rfl rfl (H d15_14) (pc' := 17) rfl (fun T5 h5 X5 e5 W5 => ?_)
  have S5 : Safe Z [("com/example/strict_chain/strictchain/Finding", 7), ("com/example/strict_chain/strictchain/Finding", 22), ("com/example/strict_chain/strictchain/Finding", 29), ("com/example/strict_chain/strictchain/Finding", 36), ("java/lang/String", 7)] _ h2 a := (Safe.exa hZ.alike f2_0 (by decide) (by decide))
  have H5 := H2.trans (CHr.wr W5 S5 H2.1)
  have hk5 := Nat.le_trans hk2 (Nat.le_of_eq W5.size.symm)
  have f5_0 := f2_0.wr W5
  have f5_1 := f2_1.same W5
  have f5_2 := f2_2.wr W5
  have f5_3 := f2_3.other W5 (Or.inr (slot_ne (Or.inr (ow hw 73 rfl)) (Or.inr (ow hw 68 rfl)) (by decide) (t := (.object "com/example/strict_chain/strictchain/Finding$Subject")) (t' := (.object "com/example/strict_chain/strictchain/Finding$Kind")) (by decide) (by decide)))
  have f5_4 := f2_4.wr W5
  have f5_5 := f2_5.other W5 (Or.inr (slot_ne (Or.inr (ow hw 77 rfl)) (Or.inr (ow hw 68 rfl)) (by decide) (t := (.object "java/lang/String")) (t' := (.object "com/example/strict_chain/strictchain/Finding$Kind")) (by decide) (by decide)))
  have f5_6 := f2_6.wr W5
  have f5_7 := f2_7.other W5 (Or.inr (slot_ne (Or.inr (ow hw 80 rfl)) (Or.inr (ow hw 68 rfl)) (by decide) (t := (.object "java/lang/String")) (t' := (.object "com/example/strict_chain/strictchain/Finding$Kind")) (by decide) (by decide)))
  have f5_8 := f2_8.wr W5
  have zs5 : h0.size ≤ h5.size := by rw [W5.size]; exact zs2
  have N5 := Fr.snoc X5 (Fr.nil n0) ga
  have K5 : Keep h0 h5 [a] := K2.wr W5 (Or.inl (by simp))
  refine gLoadAN 18 X5 hx (H d15_17) rfl rfl rfl ?_
  refine gLoadAN 19 X5 hx (H d15_18) rfl rfl rfl ?_
  refine gLdcO X5 hx hZ hown (ow hw 69 rfl) wS e5 hS hk5 hEL H5 (H d15_19) (pc' := 21) rfl (n := 28) (by decide) (by decide) (by decide) (by decide) (fun a6 T6 h6 k6 X6 e6 E6 hS hk6 hZ hown C6 H6 => ?_)
  have f6_0 := f5_0.ext E6
  have f6_1 := f5_1.ext E6
  have f6_2 := f5_2.ext E6
  have f6_3 := f5_3.ext E6
  have f6_4 := f5_4.ext E6
  have f6_5 := f5_5.ext E6
  have f6_6 := f5_6.ext E6
  have f6_7 := f5_7.ext E6
  have f6_8 := f5_8.ext E6
  have zs6 : h0.size ≤ h6.size := Nat.le_trans zs5 E6.1
  have K6 : Keep h0 h6 [a] := K5.ext E6
  refine gCallSJ X6 hx hZ (y := mn16) hown e6 (by rw [hml]; rfl) (ow hw 61 rfl) (ow hw 62 rfl) (ow hw 63 rfl) (ow hw 64 rfl) (by decide) (argsL := [(.ref u), (.ref a6)]) (st := [(.ref a)]) (c_rnn l Z a0 hw u a6 h6) (lenOf pd_8 rfl) (H d15_21) (pc' := 24) rfl rfl rfl rfl (by decide) (W := 1) (Nat.le_of_eq rfl) (by decide) (by decide) (by decide) ?_
  intro T7 X7 e7
  refine gCast X7 hx hZ hown (ow hw 70 rfl) e7 (Ins.self f6_4) (H d15_24) (pc' := 27) rfl (fun T8 X8 e8 => ?_)
  refine gPutF X8 hx hZ hown (ow hw 72 rfl) Via.refl e8 f6_3 f6_0 (Or.inr ⟨(ow hw 73 rfl), rfl, hnm⟩) (ow hw 40 rfl) (ty := (.object "com/example/strict_chain/strictchain/Finding$Subject")) (by decide) rfl rfl (H d15_27) (pc' := 30) rfl (fun T9 h9 X9 e9 W9 => ?_)
  have S9 : Safe Z [("com/example/strict_chain/strictchain/Finding", 7), ("com/example/strict_chain/strictchain/Finding", 22), ("com/example/strict_chain/strictchain/Finding", 29), ("com/example/strict_chain/strictchain/Finding", 36), ("java/lang/String", 7)] _ h6 a := (Safe.exa hZ.alike f6_0 (by decide) (by decide))
  have H9 := H6.trans (CHr.wr W9 S9 H6.1)
  have hk9 := Nat.le_trans hk6 (Nat.le_of_eq W9.size.symm)
  have f9_0 := f6_0.wr W9
  have f9_1 := f6_1.other W9 (Or.inr (slot_ne (Or.inr (ow hw 68 rfl)) (Or.inr (ow hw 73 rfl)) (by decide) (t := (.object "com/example/strict_chain/strictchain/Finding$Kind")) (t' := (.object "com/example/strict_chain/strictchain/Finding$Subject")) (by decide) (by decide)))
  have f9_2 := f6_2.wr W9
  have f9_3 := f6_3.same W9
  have f9_4 := f6_4.wr W9
  have f9_5 := f6_5.other W9 (Or.inr (slot_ne (Or.inr (ow hw 77 rfl)) (Or.inr (ow hw 73 rfl)) (by decide) (t := (.object "java/lang/String")) (t' := (.object "com/example/strict_chain/strictchain/Finding$Subject")) (by decide) (by decide)))
  have f9_6 := f6_6.wr W9
  have f9_7 := f6_7.other W9 (Or.inr (slot_ne (Or.inr (ow hw 80 rfl)) (Or.inr (ow hw 73 rfl)) (by decide) (t := (.object "java/lang/String")) (t' := (.object "com/example/strict_chain/strictchain/Finding$Subject")) (by decide) (by decide)))
  have f9_8 := f6_8.wr W9
  have zs9 : h0.size ≤ h9.size := by rw [W9.size]; exact zs6
  have N9 := Fr.snoc X9 N5 ga
  have K9 : Keep h0 h9 [a] := K6.wr W9 (Or.inl (by simp))
  refine gLoadAN 31 X9 hx (H d15_30) rfl rfl rfl ?_
  refine gLoadAN 32 X9 hx (H d15_31) rfl rfl rfl ?_
  refine gLdcO X9 hx hZ hown (ow hw 74 rfl) wS e9 hS hk9 hEL H9 (H d15_32) (pc' := 34) rfl (n := 48) (by decide) (by decide) (by decide) (by decide) (fun a10 T10 h10 k10 X10 e10 E10 hS hk10 hZ hown C10 H10 => ?_)
  have f10_0 := f9_0.ext E10
  have f10_1 := f9_1.ext E10
  have f10_2 := f9_2.ext E10
  have f10_3 := f9_3.ext E10
  have f10_4 := f9_4.ext E10
  have f10_5 := f9_5.ext E10
  have f10_6 := f9_6.ext E10
  have f10_7 := f9_7.ext E10
  have f10_8 := f9_8.ext E10
  have zs10 : h0.size ≤ h10.size := Nat.le_trans zs9 E10.1
  have K10 : Keep h0 h10 [a] := K9.ext E10
  refine gCallSJ X10 hx hZ (y := mn16) hown e10 (by rw [hml]; rfl) (ow hw 61 rfl) (ow hw 62 rfl) (ow hw 63 rfl) (ow hw 64 rfl) (by decide) (argsL := [(.ref x), (.ref a10)]) (st := [(.ref a)]) (c_rnn l Z a0 hw x a10 h10) (lenOf pd_8 rfl) (H d15_34) (pc' := 37) rfl rfl rfl rfl (by decide) (W := 1) (Nat.le_of_eq rfl) (by decide) (by decide) (by decide) ?_
  intro T11 X11 e11
  refine gCast X11 hx hZ hown (ow hw 75 rfl) e11 (Ins.self f10_6) (H d15_37) (pc' := 40) rfl (fun T12 X12 e12 => ?_)
  refine gPutF X12 hx hZ hown (ow hw 76 rfl) Via.refl e12 f10_5 f10_0 (Or.inr ⟨(ow hw 77 rfl), rfl, hnm⟩) (ow hw 40 rfl) (ty := (.object "java/lang/String")) (by decide) rfl rfl (H d15_40) (pc' := 43) rfl (fun T13 h13 X13 e13 W13 => ?_)
  have S13 : Safe Z [("com/example/strict_chain/strictchain/Finding", 7), ("com/example/strict_chain/strictchain/Finding", 22), ("com/example/strict_chain/strictchain/Finding", 29), ("com/example/strict_chain/strictchain/Finding", 36), ("java/lang/String", 7)] _ h10 a := (Safe.exa hZ.alike f10_0 (by decide) (by decide))
  have H13 := H10.trans (CHr.wr W13 S13 H10.1)
  have hk13 := Nat.le_trans hk10 (Nat.le_of_eq W13.size.symm)
  have f13_0 := f10_0.wr W13
  have f13_1 := f10_1.other W13 (Or.inr (slot_ne (Or.inr (ow hw 68 rfl)) (Or.inr (ow hw 77 rfl)) (by decide) (t := (.object "com/example/strict_chain/strictchain/Finding$Kind")) (t' := (.object "java/lang/String")) (by decide) (by decide)))
  have f13_2 := f10_2.wr W13
  have f13_3 := f10_3.other W13 (Or.inr (slot_ne (Or.inr (ow hw 73 rfl)) (Or.inr (ow hw 77 rfl)) (by decide) (t := (.object "com/example/strict_chain/strictchain/Finding$Subject")) (t' := (.object "java/lang/String")) (by decide) (by decide)))
  have f13_4 := f10_4.wr W13
  have f13_5 := f10_5.same W13
  have f13_6 := f10_6.wr W13
  have f13_7 := f10_7.other W13 (Or.inr (slot_ne (Or.inr (ow hw 80 rfl)) (Or.inr (ow hw 77 rfl)) (by decide) (t := (.object "java/lang/String")) (t' := (.object "java/lang/String")) (by decide) (by decide)))
  have f13_8 := f10_8.wr W13
  have zs13 : h0.size ≤ h13.size := by rw [W13.size]; exact zs10
  have N13 := Fr.snoc X13 N9 ga
  have K13 : Keep h0 h13 [a] := K10.wr W13 (Or.inl (by simp))
  refine gLoadAN 44 X13 hx (H d15_43) rfl rfl rfl ?_
  refine gLoadA 46 X13 hx (H d15_44) rfl rfl rfl ?_
  refine gLdcO X13 hx hZ hown (ow hw 78 rfl) wS e13 hS hk13 hEL H13 (H d15_46) (pc' := 48) rfl (n := 44) (by decide) (by decide) (by decide) (by decide) (fun a14 T14 h14 k14 X14 e14 E14 hS hk14 hZ hown C14 H14 => ?_)
  have f14_0 := f13_0.ext E14
  have f14_1 := f13_1.ext E14
  have f14_2 := f13_2.ext E14
  have f14_3 := f13_3.ext E14
  have f14_4 := f13_4.ext E14
  have f14_5 := f13_5.ext E14
  have f14_6 := f13_6.ext E14
  have f14_7 := f13_7.ext E14
  have f14_8 := f13_8.ext E14
  have zs14 : h0.size ≤ h14.size := Nat.le_trans zs13 E14.1
  have K14 : Keep h0 h14 [a] := K13.ext E14
  refine gCallSJ X14 hx hZ (y := mn16) hown e14 (by rw [hml]; rfl) (ow hw 61 rfl) (ow hw 62 rfl) (ow hw 63 rfl) (ow hw 64 rfl) (by decide) (argsL := [(.ref y), (.ref a14)]) (st := [(.ref a)]) (c_rnn l Z a0 hw y a14 h14) (lenOf pd_8 rfl) (H d15_48) (pc' := 51) rfl rfl rfl rfl (by decide) (W := 1) (Nat.le_of_eq rfl) (by decide) (by decide) (by decide) ?_
  intro T15 X15 e15
  refine gCast X15 hx hZ hown (ow hw 75 rfl) e15 (Ins.self f14_8) (H d15_51) (pc' := 54) rfl (fun T16 X16 e16 => ?_)
  refine gPutF X16 hx hZ hown (ow hw 79 rfl) Via.refl e16 f14_7 f14_0 (Or.inr ⟨(ow hw 80 rfl), rfl, hnm⟩) (ow hw 40 rfl) (ty := (.object "java/lang/String")) (by decide) rfl rfl (H d15_54) (pc' := 57) rfl (fun T17 h17 X17 e17 W17 => ?_)
  have S17 : Safe Z [("com/example/strict_chain/strictchain/Finding", 7), ("com/example/strict_chain/strictchain/Finding", 22), ("com/example/strict_chain/strictchain/Finding", 29), ("com/example/strict_chain/strictchain/Finding", 36), ("java/lang/String", 7)] _ h14 a := (Safe.exa hZ.alike f14_0 (by decide) (by decide))
  have H17 := H14.trans (CHr.wr W17 S17 H14.1)
  have hk17 := Nat.le_trans hk14 (Nat.le_of_eq W17.size.symm)
  have f17_0 := f14_0.wr W17
  have f17_1 := f14_1.other W17 (Or.inr (slot_ne (Or.inr (ow hw 68 rfl)) (Or.inr (ow hw 80 rfl)) (by decide) (t := (.object "com/example/strict_chain/strictchain/Finding$Kind")) (t' := (.object "java/lang/String")) (by decide) (by decide)))
  have f17_2 := f14_2.wr W17
  have f17_3 := f14_3.other W17 (Or.inr (slot_ne (Or.inr (ow hw 73 rfl)) (Or.inr (ow hw 80 rfl)) (by decide) (t := (.object "com/example/strict_chain/strictchain/Finding$Subject")) (t' := (.object "java/lang/String")) (by decide) (by decide)))
  have f17_4 := f14_4.wr W17
  have f17_5 := f14_5.other W17 (Or.inr (slot_ne (Or.inr (ow hw 77 rfl)) (Or.inr (ow hw 80 rfl)) (by decide) (t := (.object "java/lang/String")) (t' := (.object "java/lang/String")) (by decide) (by decide)))
  have f17_6 := f14_6.wr W17
  have f17_7 := f14_7.same W17
  have f17_8 := f14_8.wr W17
  have zs17 : h0.size ≤ h17.size := by rw [W17.size]; exact zs14
  have N17 := Fr.snoc X17 N13 ga
  have K17 : Keep h0 h17 [a] := K14.wr W17 (Or.inl (by simp))
  exact gRetHV X17 hx hlk hret (H d15_57) e17 hS hk17 hZ hEL H17 (by decide) (by decide) (⟨rfl, N17, by rw [e17]; exact K17, by rw [e17]; exact f17_0, by rw [e17]; exact f17_1, by rw [e17]; exact f17_3, by rw [e17]; exact f17_5, by rw [e17]; exact f17_7⟩)
theorem d5_0 : decode jdk_43_method_13_code 0 = .ok (.aload_n 0, 1) := by decide +kernel
theorem d5_1 : decode jdk_43_method_13_code 1 = .ok (.arraylength, 1) := by decide +kernel
theorem d5_2 : decode jdk_43_method_13_code 2 = .ok (.aload_n 1, 1) := by decide +kernel
theorem d5_3 : decode jdk_43_method_13_code 3 = .ok (.arraylength, 1) := by decide +kernel
theorem d5_4 : decode jdk_43_method_13_code 4 = .ok (.if_icmp .ne 30, 3) := by decide +kernel
theorem d5_34 : decode jdk_43_method_13_code 34 = .ok (.iconst 0, 1) := by decide +kernel
theorem d5_35 : decode jdk_43_method_13_code 35 = .ok (.ireturn, 1) := by decide +kernel
abbrev mn12 : MethodName := ⟨"java/lang/StringLatin1", "equals", "([B[B)Z"⟩
theorem pn_4 : plainName "java/lang/StringLatin1" = true := by first | (simp [plainName, overriddenIn]; done) | decide +kernel
theorem c_sl_ne (l : Launch) (Z : State) (a0 : Array Value) (hw : ∀ d ∈ tables_1, d.before a0 Z = true) (t u : Addr) (ck ck2 : ClassId) (n m' : Int32) (vs vs2 : List Value) (hnn : ¬ n = m') (h0 : Heap) (A : sA Z h0 t ck n vs) (A2 : sA Z h0 u ck2 m' vs2) :
    Ctr l Z mn12 jdk_43_method_13_code 3 (some .boolean) [] ⟨0, 0, 0, 0⟩ #[(.ref t), (.ref u)] h0 (Just h0 (.int 0)) := by
  refine Ctr.of (plainFor_of_name pn_4) ?_
  intro p e s m below meth c s₁ hx H hml hret hown hnm hZ hlk X0 e0
  refine Goes.cast (show entryFrame m _ _ = mkF m 0 #[.val (.ref t), .val (.ref u), .unset] [] from rfl) ?_
  refine gLoadAN 1 X0 hx (H d5_0) rfl rfl rfl ?_
  refine gArrLen X0 hx hZ e0 A (H d5_1) (pc' := 2) rfl ?_
  refine gLoadAN 3 X0 hx (H d5_2) rfl rfl rfl ?_
  refine gArrLen X0 hx hZ e0 A2 (H d5_3) (pc' := 4) rfl ?_
  refine gIcmpNe X0 hx (H d5_4) (pc' := 34) (by decide) (by decide) (pn := 7) rfl (fun (c4 : ¬ n = m') => ?_) (fun (c4 : n = m') => ?_)
  · refine gIconst 35 X0 hx (v := (0 : Int32)) (H d5_34) rfl rfl ?_
    exact gRetN X0 hx hlk hret (by simp) (H d5_35) (w := (0 : Int32)) rfl (by decide) (by decide) (⟨rfl, e0, rfl⟩)
  · exact absurd c4 hnn
theorem d5_7 : decode jdk_43_method_13_code 7 = .ok (.iconst 0, 1) := by decide +kernel
theorem d5_8 : decode jdk_43_method_13_code 8 = .ok (.istore_n 2, 1) := by decide +kernel
theorem d5_9 : decode jdk_43_method_13_code 9 = .ok (.iload_n 2, 1) := by decide +kernel
theorem d5_10 : decode jdk_43_method_13_code 10 = .ok (.aload_n 0, 1) := by decide +kernel
theorem d5_11 : decode jdk_43_method_13_code 11 = .ok (.arraylength, 1) := by decide +kernel
theorem d5_12 : decode jdk_43_method_13_code 12 = .ok (.if_icmp .ge 20, 3) := by decide +kernel
theorem d5_32 : decode jdk_43_method_13_code 32 = .ok (.iconst 1, 1) := by decide +kernel
theorem d5_33 : decode jdk_43_method_13_code 33 = .ok (.ireturn, 1) := by decide +kernel
theorem c_sl_0 (l : Launch) (Z : State) (a0 : Array Value) (hw : ∀ d ∈ tables_1, d.before a0 Z = true) (t u : Addr) (ck ck2 : ClassId)   (h0 : Heap) (A : sA Z h0 t ck 0 []) (A2 : sA Z h0 u ck2 0 [])   :
    Ctr l Z mn12 jdk_43_method_13_code 3 (some .boolean) [] ⟨0, 0, 0, 0⟩ #[(.ref t), (.ref u)] h0 (Just h0 (.int (b2i (decide ([] = ([] : List Int32)))))) := by
  refine Ctr.of (plainFor_of_name pn_4) ?_
  intro p e s m below meth c s₁ hx H hml hret hown hnm hZ hlk X0 e0
  refine Goes.cast (show entryFrame m _ _ = mkF m 0 #[.val (.ref t), .val (.ref u), .unset] [] from rfl) ?_
  refine gLoadAN 1 X0 hx (H d5_0) rfl rfl rfl ?_
  refine gArrLen X0 hx hZ e0 A (H d5_1) (pc' := 2) rfl ?_
  refine gLoadAN 3 X0 hx (H d5_2) rfl rfl rfl ?_
  refine gArrLen X0 hx hZ e0 A2 (H d5_3) (pc' := 4) rfl ?_
  refine gIcmpNeT X0 hx (H d5_4) (pc' := 34) (by decide) (by decide) (pn := 7) rfl (fun (c4 : ¬ (0 : Int) = (0 : Int)) => ?_) (fun (c4 : (0 : Int) = (0 : Int)) => ?_)
  · exact absurd c4 (by decide)
  · refine gIconst 8 X0 hx (v := (0 : Int32)) (H d5_7) rfl rfl ?_
    refine gStoreIN 9 X0 hx (H d5_8) (l' := #[.val (.ref t), .val (.ref u), .val (.int (0 : Int32))]) rfl rfl ?_
    refine gLoadIN 10 X0 hx (H d5_9) rfl rfl ?_
    refine gLoadAN 11 X0 hx (H d5_10) rfl rfl rfl ?_
    refine gArrLen X0 hx hZ e0 A (H d5_11) (pc' := 12) rfl ?_
    refine gIcmpGe X0 hx (H d5_12) (pc' := 32) (by decide) (by decide) (pn := 15) rfl (fun (c12 : (0 : Int) ≤ (0 : Int)) => ?_) (fun (c12 : (0 : Int) < (0 : Int)) => ?_)
    · refine gIconst 33 X0 hx (v := (1 : Int32)) (H d5_32) rfl rfl ?_
      exact gRetN X0 hx hlk hret (by simp) (H d5_33) (w := (1 : Int32)) rfl (by decide) (by decide) (just_t (by rfl) e0)
    · exact absurd c12 (by decide)
theorem d5_15 : decode jdk_43_method_13_code 15 = .ok (.aload_n 0, 1) := by decide +kernel
theorem d5_16 : decode jdk_43_method_13_code 16 = .ok (.iload_n 2, 1) := by decide +kernel
theorem d5_17 : decode jdk_43_method_13_code 17 = .ok (.baload, 1) := by decide +kernel
theorem d5_18 : decode jdk_43_method_13_code 18 = .ok (.aload_n 1, 1) := by decide +kernel
theorem d5_19 : decode jdk_43_method_13_code 19 = .ok (.iload_n 2, 1) := by decide +kernel
theorem d5_20 : decode jdk_43_method_13_code 20 = .ok (.baload, 1) := by decide +kernel
theorem d5_21 : decode jdk_43_method_13_code 21 = .ok (.if_icmp .eq 5, 3) := by decide +kernel
theorem d5_26 : decode jdk_43_method_13_code 26 = .ok (.iinc 2 1, 3) := by decide +kernel
theorem d5_29 : decode jdk_43_method_13_code 29 = .ok (.goto (-20), 3) := by decide +kernel
theorem d5_24 : decode jdk_43_method_13_code 24 = .ok (.iconst 0, 1) := by decide +kernel
theorem d5_25 : decode jdk_43_method_13_code 25 = .ok (.ireturn, 1) := by decide +kernel
theorem c_sl_1 (l : Launch) (Z : State) (a0 : Array Value) (hw : ∀ d ∈ tables_1, d.before a0 Z = true) (t u : Addr) (ck ck2 : ClassId) (ch0 : Int32) (cx0 : Int32) (h0 : Heap) (A : sA Z h0 t ck 1 [by8 ch0]) (A2 : sA Z h0 u ck2 1 [by8 cx0]) (hch0 : rg ch0) (hcx0 : rg cx0) :
    Ctr l Z mn12 jdk_43_method_13_code 3 (some .boolean) [] ⟨0, 0, 0, 0⟩ #[(.ref t), (.ref u)] h0 (Just h0 (.int (b2i (decide ([ch0] = ([cx0] : List Int32)))))) := by
  refine Ctr.of (plainFor_of_name pn_4) ?_
  intro p e s m below meth c s₁ hx H hml hret hown hnm hZ hlk X0 e0
  refine Goes.cast (show entryFrame m _ _ = mkF m 0 #[.val (.ref t), .val (.ref u), .unset] [] from rfl) ?_
  refine gLoadAN 1 X0 hx (H d5_0) rfl rfl rfl ?_
  refine gArrLen X0 hx hZ e0 A (H d5_1) (pc' := 2) rfl ?_
  refine gLoadAN 3 X0 hx (H d5_2) rfl rfl rfl ?_
  refine gArrLen X0 hx hZ e0 A2 (H d5_3) (pc' := 4) rfl ?_
  refine gIcmpNeT X0 hx (H d5_4) (pc' := 34) (by decide) (by decide) (pn := 7) rfl (fun (c4 : ¬ (1 : Int) = (1 : Int)) => ?_) (fun (c4 : (1 : Int) = (1 : Int)) => ?_)
  · exact absurd c4 (by decide)
  · refine gIconst 8 X0 hx (v := (0 : Int32)) (H d5_7) rfl rfl ?_
    refine gStoreIN 9 X0 hx (H d5_8) (l' := #[.val (.ref t), .val (.ref u), .val (.int (0 : Int32))]) rfl rfl ?_
    refine gLoadIN 10 X0 hx (H d5_9) rfl rfl ?_
    refine gLoadAN 11 X0 hx (H d5_10) rfl rfl rfl ?_
    refine gArrLen X0 hx hZ e0 A (H d5_11) (pc' := 12) rfl ?_
    refine gIcmpGe X0 hx (H d5_12) (pc' := 32) (by decide) (by decide) (pn := 15) rfl (fun (c12 : (1 : Int) ≤ (0 : Int)) => ?_) (fun (c12 : (0 : Int) < (1 : Int)) => ?_)
    · exact absurd c12 (by decide)
    · refine gLoadAN 16 X0 hx (H d5_15) rfl rfl rfl ?_
      refine gLoadIN 17 X0 hx (H d5_16) rfl rfl ?_
      refine gBaload X0 hx hZ e0 A (j := (0 : Int32)) (v := (.int (ch0.toInt8.toInt32))) (by decide) (by decide) rfl (H d5_17) (pc' := 18) rfl ?_
      refine gLoadAN 19 X0 hx (H d5_18) rfl rfl rfl ?_
      refine gLoadIN 20 X0 hx (H d5_19) rfl rfl ?_
      refine gBaload X0 hx hZ e0 A2 (j := (0 : Int32)) (v := (.int (cx0.toInt8.toInt32))) (by decide) (by decide) rfl (H d5_20) (pc' := 21) rfl ?_
      refine gIcmpEq X0 hx (H d5_21) (pc' := 26) (by decide) (by decide) (pn := 24) rfl (fun (c21 : (ch0.toInt8.toInt32) = (cx0.toInt8.toInt32)) => ?_) (fun (c21 : ¬ (ch0.toInt8.toInt32) = (cx0.toInt8.toInt32)) => ?_)
      · refine gIinc X0 hx (v := (1 : Int32)) (H d5_26) (l' := #[.val (.ref t), .val (.ref u), .val (.int (1 : Int32))]) (pc' := 29) rfl rfl rfl rfl ?_
        refine gGoto X0 hx (H d5_29) (pc' := 9) (by decide) (by decide) ?_
        refine gLoadIN 10 X0 hx (H d5_9) rfl rfl ?_
        refine gLoadAN 11 X0 hx (H d5_10) rfl rfl rfl ?_
        refine gArrLen X0 hx hZ e0 A (H d5_11) (pc' := 12) rfl ?_
        refine gIcmpGe X0 hx (H d5_12) (pc' := 32) (by decide) (by decide) (pn := 15) rfl (fun (c12' : (1 : Int) ≤ (1 : Int)) => ?_) (fun (c12' : (1 : Int) < (1 : Int)) => ?_)
        · refine gIconst 33 X0 hx (v := (1 : Int32)) (H d5_32) rfl rfl ?_
          exact gRetN X0 hx hlk hret (by simp) (H d5_33) (w := (1 : Int32)) rfl (by decide) (by decide) (just_t (by rw [Int32.toInt_inj.mp ((own_binj hch0 hcx0).mp c21)]) e0)
        · exact absurd c12' (by decide)
      · refine gIconst 25 X0 hx (v := (0 : Int32)) (H d5_24) rfl rfl ?_
        exact gRetN X0 hx hlk hret (by simp) (H d5_25) (w := (0 : Int32)) rfl (by decide) (by decide) (just_f (by intro q; cases q; exact absurd rfl c21) e0)
theorem c_sl_2 (l : Launch) (Z : State) (a0 : Array Value) (hw : ∀ d ∈ tables_1, d.before a0 Z = true) (t u : Addr) (ck ck2 : ClassId) (ch0 ch1 : Int32) (cx0 cx1 : Int32) (h0 : Heap) (A : sA Z h0 t ck 2 [by8 ch0, by8 ch1]) (A2 : sA Z h0 u ck2 2 [by8 cx0, by8 cx1]) (hch0 : rg ch0) (hch1 : rg ch1) (hcx0 : rg cx0) (hcx1 : rg cx1) :
    Ctr l Z mn12 jdk_43_method_13_code 3 (some .boolean) [] ⟨0, 0, 0, 0⟩ #[(.ref t), (.ref u)] h0 (Just h0 (.int (b2i (decide ([ch0, ch1] = ([cx0, cx1] : List Int32)))))) := by
  refine Ctr.of (plainFor_of_name pn_4) ?_
  intro p e s m below meth c s₁ hx H hml hret hown hnm hZ hlk X0 e0
  refine Goes.cast (show entryFrame m _ _ = mkF m 0 #[.val (.ref t), .val (.ref u), .unset] [] from rfl) ?_
  refine gLoadAN 1 X0 hx (H d5_0) rfl rfl rfl ?_
  refine gArrLen X0 hx hZ e0 A (H d5_1) (pc' := 2) rfl ?_
  refine gLoadAN 3 X0 hx (H d5_2) rfl rfl rfl ?_
  refine gArrLen X0 hx hZ e0 A2 (H d5_3) (pc' := 4) rfl ?_
  refine gIcmpNeT X0 hx (H d5_4) (pc' := 34) (by decide) (by decide) (pn := 7) rfl (fun (c4 : ¬ (2 : Int) = (2 : Int)) => ?_) (fun (c4 : (2 : Int) = (2 : Int)) => ?_)
  · exact absurd c4 (by decide)
  · refine gIconst 8 X0 hx (v := (0 : Int32)) (H d5_7) rfl rfl ?_
    refine gStoreIN 9 X0 hx (H d5_8) (l' := #[.val (.ref t), .val (.ref u), .val (.int (0 : Int32))]) rfl rfl ?_
    refine gLoadIN 10 X0 hx (H d5_9) rfl rfl ?_
    refine gLoadAN 11 X0 hx (H d5_10) rfl rfl rfl ?_
    refine gArrLen X0 hx hZ e0 A (H d5_11) (pc' := 12) rfl ?_
    refine gIcmpGe X0 hx (H d5_12) (pc' := 32) (by decide) (by decide) (pn := 15) rfl (fun (c12 : (2 : Int) ≤ (0 : Int)) => ?_) (fun (c12 : (0 : Int) < (2 : Int)) => ?_)
    · exact absurd c12 (by decide)
    · refine gLoadAN 16 X0 hx (H d5_15) rfl rfl rfl ?_
      refine gLoadIN 17 X0 hx (H d5_16) rfl rfl ?_
      refine gBaload X0 hx hZ e0 A (j := (0 : Int32)) (v := (.int (ch0.toInt8.toInt32))) (by decide) (by decide) rfl (H d5_17) (pc' := 18) rfl ?_
      refine gLoadAN 19 X0 hx (H d5_18) rfl rfl rfl ?_
      refine gLoadIN 20 X0 hx (H d5_19) rfl rfl ?_
      refine gBaload X0 hx hZ e0 A2 (j := (0 : Int32)) (v := (.int (cx0.toInt8.toInt32))) (by decide) (by decide) rfl (H d5_20) (pc' := 21) rfl ?_
      refine gIcmpEq X0 hx (H d5_21) (pc' := 26) (by decide) (by decide) (pn := 24) rfl (fun (c21 : (ch0.toInt8.toInt32) = (cx0.toInt8.toInt32)) => ?_) (fun (c21 : ¬ (ch0.toInt8.toInt32) = (cx0.toInt8.toInt32)) => ?_)
      · refine gIinc X0 hx (v := (1 : Int32)) (H d5_26) (l' := #[.val (.ref t), .val (.ref u), .val (.int (1 : Int32))]) (pc' := 29) rfl rfl rfl rfl ?_
        refine gGoto X0 hx (H d5_29) (pc' := 9) (by decide) (by decide) ?_
        refine gLoadIN 10 X0 hx (H d5_9) rfl rfl ?_
        refine gLoadAN 11 X0 hx (H d5_10) rfl rfl rfl ?_
        refine gArrLen X0 hx hZ e0 A (H d5_11) (pc' := 12) rfl ?_
        refine gIcmpGe X0 hx (H d5_12) (pc' := 32) (by decide) (by decide) (pn := 15) rfl (fun (c12' : (2 : Int) ≤ (1 : Int)) => ?_) (fun (c12' : (1 : Int) < (2 : Int)) => ?_)
        · exact absurd c12' (by decide)
        · refine gLoadAN 16 X0 hx (H d5_15) rfl rfl rfl ?_
          refine gLoadIN 17 X0 hx (H d5_16) rfl rfl ?_
          refine gBaload X0 hx hZ e0 A (j := (1 : Int32)) (v := (.int (ch1.toInt8.toInt32))) (by decide) (by decide) rfl (H d5_17) (pc' := 18) rfl ?_
          refine gLoadAN 19 X0 hx (H d5_18) rfl rfl rfl ?_
          refine gLoadIN 20 X0 hx (H d5_19) rfl rfl ?_
          refine gBaload X0 hx hZ e0 A2 (j := (1 : Int32)) (v := (.int (cx1.toInt8.toInt32))) (by decide) (by decide) rfl (H d5_20) (pc' := 21) rfl ?_
          refine gIcmpEq X0 hx (H d5_21) (pc' := 26) (by decide) (by decide) (pn := 24) rfl (fun (c21' : (ch1.toInt8.toInt32) = (cx1.toInt8.toInt32)) => ?_) (fun (c21' : ¬ (ch1.toInt8.toInt32) = (cx1.toInt8.toInt32)) => ?_)
          · refine gIinc X0 hx (v := (1 : Int32)) (H d5_26) (l' := #[.val (.ref t), .val (.ref u), .val (.int (2 : Int32))]) (pc' := 29) rfl rfl rfl rfl ?_
            refine gGoto X0 hx (H d5_29) (pc' := 9) (by decide) (by decide) ?_
            refine gLoadIN 10 X0 hx (H d5_9) rfl rfl ?_
            refine gLoadAN 11 X0 hx (H d5_10) rfl rfl rfl ?_
            refine gArrLen X0 hx hZ e0 A (H d5_11) (pc' := 12) rfl ?_
            refine gIcmpGe X0 hx (H d5_12) (pc' := 32) (by decide) (by decide) (pn := 15) rfl (fun (c12'' : (2 : Int) ≤ (2 : Int)) => ?_) (fun (c12'' : (2 : Int) < (2 : Int)) => ?_)
            · refine gIconst 33 X0 hx (v := (1 : Int32)) (H d5_32) rfl rfl ?_
              exact gRetN X0 hx hlk hret (by simp) (H d5_33) (w := (1 : Int32)) rfl (by decide) (by decide) (just_t (by rw [Int32.toInt_inj.mp ((own_binj hch0 hcx0).mp c21), Int32.toInt_inj.mp ((own_binj hch1 hcx1).mp c21')]) e0)
            · exact absurd c12'' (by decide)
          · refine gIconst 25 X0 hx (v := (0 : Int32)) (H d5_24) rfl rfl ?_
            exact gRetN X0 hx hlk hret (by simp) (H d5_25) (w := (0 : Int32)) rfl (by decide) (by decide) (just_f (by intro q; cases q; exact absurd rfl c21') e0)
      · refine gIconst 25 X0 hx (v := (0 : Int32)) (H d5_24) rfl rfl ?_
        exact gRetN X0 hx hlk hret (by simp) (H d5_25) (w := (0 : Int32)) rfl (by decide) (by decide) (just_f (by intro q; cases q; exact absurd rfl c21) e0)
theorem c_sl_3 (l : Launch) (Z : State) (a0 : Array Value) (hw : ∀ d ∈ tables_1, d.before a0 Z = true) (t u : Addr) (ck ck2 : ClassId) (ch0 ch1 ch2 : Int32) (cx0 cx1 cx2 : Int32) (h0 : Heap) (A : sA Z h0 t ck 3 [by8 ch0, by8 ch1, by8 ch2]) (A2 : sA Z h0 u ck2 3 [by8 cx0, by8 cx1, by8 cx2]) (hch0 : rg ch0) (hch1 : rg ch1) (hch2 : rg ch2) (hcx0 : rg cx0) (hcx1 : rg cx1) (hcx2 : rg cx2) :
    Ctr l Z mn12 jdk_43_method_13_code 3 (some .boolean) [] ⟨0, 0, 0, 0⟩ #[(.ref t), (.ref u)] h0 (Just h0 (.int (b2i (decide ([ch0, ch1, ch2] = ([cx0, cx1, cx2] : List Int32)))))) := by
  refine Ctr.of (plainFor_of_name pn_4) ?_
  intro p e s m below meth c s₁ hx H hml hret hown hnm hZ hlk X0 e0
  refine Goes.cast (show entryFrame m _ _ = mkF m 0 #[.val (.ref t), .val (.ref u), .unset] [] from rfl) ?_
  refine gLoadAN 1 X0 hx (H d5_0) rfl rfl rfl ?_
  refine gArrLen X0 hx hZ e0 A (H d5_1) (pc' := 2) rfl ?_
  refine gLoadAN 3 X0 hx (H d5_2) rfl rfl rfl ?_
  refine gArrLen X0 hx hZ e0 A2 (H d5_3) (pc' := 4) rfl ?_
  refine gIcmpNeT X0 hx (H d5_4) (pc' := 34) (by decide) (by decide) (pn := 7) rfl (fun (c4 : ¬ (3 : Int) = (3 : Int)) => ?_) (fun (c4 : (3 : Int) = (3 : Int)) => ?_)
  · exact absurd c4 (by decide)
  · refine gIconst 8 X0 hx (v := (0 : Int32)) (H d5_7) rfl rfl ?_
    refine gStoreIN 9 X0 hx (H d5_8) (l' := #[.val (.ref t), .val (.ref u), .val (.int (0 : Int32))]) rfl rfl ?_
    refine gLoadIN 10 X0 hx (H d5_9) rfl rfl ?_
    refine gLoadAN 11 X0 hx (H d5_10) rfl rfl rfl ?_
    refine gArrLen X0 hx hZ e0 A (H d5_11) (pc' := 12) rfl ?_
    refine gIcmpGe X0 hx (H d5_12) (pc' := 32) (by decide) (by decide) (pn := 15) rfl (fun (c12 : (3 : Int) ≤ (0 : Int)) => ?_) (fun (c12 : (0 : Int) < (3 : Int)) => ?_)
    · exact absurd c12 (by decide)
    · refine gLoadAN 16 X0 hx (H d5_15) rfl rfl rfl ?_
      refine gLoadIN 17 X0 hx (H d5_16) rfl rfl ?_
      refine gBaload X0 hx hZ e0 A (j := (0 : Int32)) (v := (.int (ch0.toInt8.toInt32))) (by decide) (by decide) rfl (H d5_17) (pc' := 18) rfl ?_
      refine gLoadAN 19 X0 hx (H d5_18) rfl rfl rfl ?_
      refine gLoadIN 20 X0 hx (H d5_19) rfl rfl ?_
      refine gBaload X0 hx hZ e0 A2 (j := (0 : Int32)) (v := (.int (cx0.toInt8.toInt32))) (by decide) (by decide) rfl (H d5_20) (pc' := 21) rfl ?_
      refine gIcmpEq X0 hx (H d5_21) (pc' := 26) (by decide) (by decide) (pn := 24) rfl (fun (c21 : (ch0.toInt8.toInt32) = (cx0.toInt8.toInt32)) => ?_) (fun (c21 : ¬ (ch0.toInt8.toInt32) = (cx0.toInt8.toInt32)) => ?_)
      · refine gIinc X0 hx (v := (1 : Int32)) (H d5_26) (l' := #[.val (.ref t), .val (.ref u), .val (.int (1 : Int32))]) (pc' := 29) rfl rfl rfl rfl ?_
        refine gGoto X0 hx (H d5_29) (pc' := 9) (by decide) (by decide) ?_
        refine gLoadIN 10 X0 hx (H d5_9) rfl rfl ?_
        refine gLoadAN 11 X0 hx (H d5_10) rfl rfl rfl ?_
        refine gArrLen X0 hx hZ e0 A (H d5_11) (pc' := 12) rfl ?_
        refine gIcmpGe X0 hx (H d5_12) (pc' := 32) (by decide) (by decide) (pn := 15) rfl (fun (c12' : (3 : Int) ≤ (1 : Int)) => ?_) (fun (c12' : (1 : Int) < (3 : Int)) => ?_)
        · exact absurd c12' (by decide)
        · refine gLoadAN 16 X0 hx (H d5_15) rfl rfl rfl ?_
          refine gLoadIN 17 X0 hx (H d5_16) rfl rfl ?_
          refine gBaload X0 hx hZ e0 A (j := (1 : Int32)) (v := (.int (ch1.toInt8.toInt32))) (by decide) (by decide) rfl (H d5_17) (pc' := 18) rfl ?_
          refine gLoadAN 19 X0 hx (H d5_18) rfl rfl rfl ?_
          refine gLoadIN 20 X0 hx (H d5_19) rfl rfl ?_
          refine gBaload X0 hx hZ e0 A2 (j := (1 : Int32)) (v := (.int (cx1.toInt8.toInt32))) (by decide) (by decide) rfl (H d5_20) (pc' := 21) rfl ?_
          refine gIcmpEq X0 hx (H d5_21) (pc' := 26) (by decide) (by decide) (pn := 24) rfl (fun (c21' : (ch1.toInt8.toInt32) = (cx1.toInt8.toInt32)) => ?_) (fun (c21' : ¬ (ch1.toInt8.toInt32) = (cx1.toInt8.toInt32)) => ?_)
          · refine gIinc X0 hx (v := (1 : Int32)) (H d5_26) (l' := #[.val (.ref t), .val (.ref u), .val (.int (2 : Int32))]) (pc' := 29) rfl rfl rfl rfl ?_
            refine gGoto X0 hx (H d5_29) (pc' := 9) (by decide) (by decide) ?_
            refine gLoadIN 10 X0 hx (H d5_9) rfl rfl ?_
            refine gLoadAN 11 X0 hx (H d5_10) rfl rfl rfl ?_
            refine gArrLen X0 hx hZ e0 A (H d5_11) (pc' := 12) rfl ?_
            refine gIcmpGe X0 hx (H d5_12) (pc' := 32) (by decide) (by decide) (pn := 15) rfl (fun (c12'' : (3 : Int) ≤ (2 : Int)) => ?_) (fun (c12'' : (2 : Int) < (3 : Int)) => ?_)
            · exact absurd c12'' (by decide)
            · refine gLoadAN 16 X0 hx (H d5_15) rfl rfl rfl ?_
              refine gLoadIN 17 X0 hx (H d5_16) rfl rfl ?_
              refine gBaload X0 hx hZ e0 A (j := (2 : Int32)) (v := (.int (ch2.toInt8.toInt32))) (by decide) (by decide) rfl (H d5_17) (pc' := 18) rfl ?_
              refine gLoadAN 19 X0 hx (H d5_18) rfl rfl rfl ?_
              refine gLoadIN 20 X0 hx (H d5_19) rfl rfl ?_
              refine gBaload X0 hx hZ e0 A2 (j := (2 : Int32)) (v := (.int (cx2.toInt8.toInt32))) (by decide) (by decide) rfl (H d5_20) (pc' := 21) rfl ?_
              refine gIcmpEq X0 hx (H d5_21) (pc' := 26) (by decide) (by decide) (pn := 24) rfl (fun (c21'' : (ch2.toInt8.toInt32) = (cx2.toInt8.toInt32)) => ?_) (fun (c21'' : ¬ (ch2.toInt8.toInt32) = (cx2.toInt8.toInt32)) => ?_)
              · refine gIinc X0 hx (v := (1 : Int32)) (H d5_26) (l' := #[.val (.ref t), .val (.ref u), .val (.int (3 : Int32))]) (pc' := 29) rfl rfl rfl rfl ?_
                refine gGoto X0 hx (H d5_29) (pc' := 9) (by decide) (by decide) ?_
                refine gLoadIN 10 X0 hx (H d5_9) rfl rfl ?_
                refine gLoadAN 11 X0 hx (H d5_10) rfl rfl rfl ?_
                refine gArrLen X0 hx hZ e0 A (H d5_11) (pc' := 12) rfl ?_
                refine gIcmpGe X0 hx (H d5_12) (pc' := 32) (by decide) (by decide) (pn := 15) rfl (fun (c12''' : (3 : Int) ≤ (3 : Int)) => ?_) (fun (c12''' : (3 : Int) < (3 : Int)) => ?_)
                · refine gIconst 33 X0 hx (v := (1 : Int32)) (H d5_32) rfl rfl ?_
                  exact gRetN X0 hx hlk hret (by simp) (H d5_33) (w := (1 : Int32)) rfl (by decide) (by decide) (just_t (by rw [Int32.toInt_inj.mp ((own_binj hch0 hcx0).mp c21), Int32.toInt_inj.mp ((own_binj hch1 hcx1).mp c21'), Int32.toInt_inj.mp ((own_binj hch2 hcx2).mp c21'')]) e0)
                · exact absurd c12''' (by decide)
              · refine gIconst 25 X0 hx (v := (0 : Int32)) (H d5_24) rfl rfl ?_
                exact gRetN X0 hx hlk hret (by simp) (H d5_25) (w := (0 : Int32)) rfl (by decide) (by decide) (just_f (by intro q; cases q; exact absurd rfl c21'') e0)
          · refine gIconst 25 X0 hx (v := (0 : Int32)) (H d5_24) rfl rfl ?_
            exact gRetN X0 hx hlk hret (by simp) (H d5_25) (w := (0 : Int32)) rfl (by decide) (by decide) (just_f (by intro q; cases q; exact absurd rfl c21') e0)
      · refine gIconst 25 X0 hx (v := (0 : Int32)) (H d5_24) rfl rfl ?_
        exact gRetN X0 hx hlk hret (by simp) (H d5_25) (w := (0 : Int32)) rfl (by decide) (by decide) (just_f (by intro q; cases q; exact absurd rfl c21) e0)
theorem c_sl (l : Launch) (Z : State) (a0 : Array Value) (hw : ∀ d ∈ tables_1, d.before a0 Z = true) (t u : Addr) (ck ck2 : ClassId) (xs ys : List Int32) (h0 : Heap) (hx3 : xs.length ≤ 3) (hy3 : ys.length ≤ 3) (rx : ∀ c ∈ xs, rg c) (ry : ∀ c ∈ ys, rg c) (A : sA Z h0 t ck (Int32.ofNat xs.length) (xs.map by8)) (A2 : sA Z h0 u ck2 (Int32.ofNat ys.length) (ys.map by8)) :
    Ctr l Z mn12 jdk_43_method_13_code 3 (some .boolean) [] ⟨0, 0, 0, 0⟩ #[(.ref t), (.ref u)] h0 (Just h0 (.int (b2i (decide (xs = ys))))) := by
  by_cases hl : xs.length = ys.length
  · rcases xs with _ | ⟨ch0, _ | ⟨ch1, _ | ⟨ch2, _ | ⟨_, _⟩⟩⟩⟩ <;> rcases ys with _ | ⟨cx0, _ | ⟨cx1, _ | ⟨cx2, _ | ⟨_, _⟩⟩⟩⟩ <;> first | exact c_sl_0 l Z a0 hw t u ck ck2   h0 A A2  | exact c_sl_1 l Z a0 hw t u ck ck2 ch0 cx0 h0 A A2 (rx _ (by simp)) (ry _ (by simp)) | exact c_sl_2 l Z a0 hw t u ck ck2 ch0 ch1 cx0 cx1 h0 A A2 (rx _ (by simp)) (rx _ (by simp)) (ry _ (by simp)) (ry _ (by simp)) | exact c_sl_3 l Z a0 hw t u ck ck2 ch0 ch1 ch2 cx0 cx1 cx2 h0 A A2 (rx _ (by simp)) (rx _ (by simp)) (rx _ (by simp)) (ry _ (by simp)) (ry _ (by simp)) (ry _ (by simp)) | (exfalso; simp only [List.length_cons, List.length_nil] at hl; omega) | (exfalso; simp only [List.length_cons] at hx3; omega)
  · rw [b2_f (fun q => hl (by rw [q]))]
    exact c_sl_ne l Z a0 hw t u ck ck2 _ _ _ _ (own_len_ne _ (by omega) _ (by omega) hl) h0 A A2
theorem d4_0 : decode jdk_42_method_66_code 0 = .ok (.aload_n 0, 1) := by decide +kernel
theorem d4_1 : decode jdk_42_method_66_code 1 = .ok (.aload_n 1, 1) := by decide +kernel
theorem d4_2 : decode jdk_42_method_66_code 2 = .ok (.if_acmp .ne 5, 3) := by decide +kernel
theorem d4_7 : decode jdk_42_method_66_code 7 = .ok (.aload_n 1, 1) := by decide +kernel
theorem d4_8 : decode jdk_42_method_66_code 8 = .ok (.instanceof 10, 3) := by decide +kernel
theorem d4_11 : decode jdk_42_method_66_code 11 = .ok (.ifCond .eq 43, 3) := by decide +kernel
theorem d4_14 : decode jdk_42_method_66_code 14 = .ok (.aload_n 1, 1) := by decide +kernel
theorem d4_15 : decode jdk_42_method_66_code 15 = .ok (.checkcast 10, 3) := by decide +kernel
theorem d4_18 : decode jdk_42_method_66_code 18 = .ok (.astore_n 2, 1) := by decide +kernel
theorem d4_19 : decode jdk_42_method_66_code 19 = .ok (.getstatic 38, 3) := by decide +kernel
theorem d4_22 : decode jdk_42_method_66_code 22 = .ok (.ifCond .eq 14, 3) := by decide +kernel
theorem d4_25 : decode jdk_42_method_66_code 25 = .ok (.aload_n 0, 1) := by decide +kernel
theorem d4_26 : decode jdk_42_method_66_code 26 = .ok (.getfield 15, 3) := by decide +kernel
theorem d4_29 : decode jdk_42_method_66_code 29 = .ok (.aload_n 2, 1) := by decide +kernel
theorem d4_30 : decode jdk_42_method_66_code 30 = .ok (.getfield 15, 3) := by decide +kernel
theorem d4_33 : decode jdk_42_method_66_code 33 = .ok (.if_icmp .ne 21, 3) := by decide +kernel
theorem d4_36 : decode jdk_42_method_66_code 36 = .ok (.aload_n 0, 1) := by decide +kernel
theorem d4_37 : decode jdk_42_method_66_code 37 = .ok (.getfield 9, 3) := by decide +kernel
theorem d4_40 : decode jdk_42_method_66_code 40 = .ok (.aload_n 2, 1) := by decide +kernel
theorem d4_41 : decode jdk_42_method_66_code 41 = .ok (.getfield 9, 3) := by decide +kernel
theorem d4_44 : decode jdk_42_method_66_code 44 = .ok (.invokestatic 541, 3) := by decide +kernel
theorem pd_10 : parseMethodDescriptor "([B[B)Z" = some ⟨[(.array .byte), (.array .byte)], some .boolean⟩ := by decide +kernel
theorem d4_47 : decode jdk_42_method_66_code 47 = .ok (.ifCond .eq 7, 3) := by decide +kernel
theorem d4_54 : decode jdk_42_method_66_code 54 = .ok (.iconst 0, 1) := by decide +kernel
theorem d4_55 : decode jdk_42_method_66_code 55 = .ok (.ireturn, 1) := by decide +kernel
theorem d4_50 : decode jdk_42_method_66_code 50 = .ok (.iconst 1, 1) := by decide +kernel
theorem d4_51 : decode jdk_42_method_66_code 51 = .ok (.goto 4, 3) := by decide +kernel
theorem d4_5 : decode jdk_42_method_66_code 5 = .ok (.iconst 1, 1) := by decide +kernel
theorem d4_6 : decode jdk_42_method_66_code 6 = .ok (.ireturn, 1) := by decide +kernel
abbrev mn11 : MethodName := ⟨"java/lang/String", "equals", "(Ljava/lang/Object;)Z"⟩
theorem c_streq (l : Launch) (Z : State) (a0 : Array Value) (hw : ∀ d ∈ tables_1, d.before a0 Z = true) (a b : Addr) (xs ys : List Int32) (h0 : Heap) (hCpt : Cpt Z h0) (hx3 : xs.length ≤ 3) (hy3 : ys.length ≤ 3) (rx : ∀ c ∈ xs, rg c) (ry : ∀ c ∈ ys, rg c) (SA : StrL Z h0 a xs) (SB : StrL Z h0 b ys) (hab : a = b → xs = ys) :
    Ctr l Z mn11 jdk_42_method_66_code 3 (some .boolean) [] ⟨1, 0, 0, 16⟩ #[(.ref a), (.ref b)] h0 (Just h0 (.int (b2i (decide (xs = ys))))) := by
  refine Ctr.of (plainFor_of_name pn_3) ?_
  intro p e s m below meth c s₁ hx H hml hret hown hnm hZ hlk X0 e0
  refine Goes.cast (show entryFrame m _ _ = mkF m 0 #[.val (.ref a), .val (.ref b), .unset] [] from rfl) ?_
  obtain ⟨cz, SC, hcz⟩ := hCpt
  obtain ⟨t, ck, E, C, V, A⟩ := SA
  obtain ⟨u, ck2, E2, C2, V2, A2⟩ := SB
  refine gLoadAN 1 X0 hx (H d4_0) rfl rfl rfl ?_
  refine gLoadAN 2 X0 hx (H d4_1) rfl rfl rfl ?_
  refine gAcmpNe X0 hx (H d4_2) rfl rfl (pc' := 7) (by decide) (by decide) (pn := 5) rfl (fun (c2 : ¬ (Value.ref a) = (.ref b)) => ?_) (fun (c2 : (Value.ref a) = (.ref b)) => ?_)
  · refine gLoadAN 8 X0 hx (H d4_7) rfl rfl rfl ?_
    refine gInstY X0 hx hZ hown (ow hw 96 rfl) e0 (Ins.self E2) (H d4_8) (pc' := 11) rfl (fun T1 X1 e1 => ?_)
    refine gIfEqT X1 hx (H d4_11) (pc' := 54) (by decide) (by decide) (pn := 14) rfl (fun (c11 : (1 : Int) = (0 : Int)) => ?_) (fun (c11 : ¬ (1 : Int) = (0 : Int)) => ?_)
    · exact absurd c11 (by decide)
    · refine gLoadAN 15 X1 hx (H d4_14) rfl rfl rfl ?_
      refine gCast X1 hx hZ hown (ow hw 96 rfl) e1 (Ins.self E2) (H d4_15) (pc' := 18) rfl (fun T2 X2 e2 => ?_)
      refine gStoreAN 19 X2 hx (H d4_18) (l' := #[.val (.ref a), .val (.ref b), .val (.ref b)]) rfl rfl rfl ?_
      refine gGetS X2 hx hZ hown (ow hw 23 rfl) Via.refl e2 SC (H d4_19) (pc' := 22) rfl (fun T3 X3 e3 => ?_)
      refine gIfEqT X3 hx (H d4_22) (pc' := 36) (by decide) (by decide) (pn := 25) rfl (fun (c22 : cz.toInt = (0 : Int)) => ?_) (fun (c22 : ¬ cz.toInt = (0 : Int)) => ?_)
      · exact absurd c22 hcz
      · refine gLoadAN 26 X3 hx (H d4_25) rfl rfl rfl ?_
        refine gGetF X3 hx hZ hown (ow hw 35 rfl) Via.refl e3 C (H d4_26) (pc' := 29) rfl (fun T4 X4 e4 => ?_)
        refine gLoadAN 30 X4 hx (H d4_29) rfl rfl rfl ?_
        refine gGetF X4 hx hZ hown (ow hw 35 rfl) Via.refl e4 C2 (H d4_30) (pc' := 33) rfl (fun T5 X5 e5 => ?_)
        refine gIcmpNeT X5 hx (H d4_33) (pc' := 54) (by decide) (by decide) (pn := 36) rfl (fun (c33 : ¬ (0 : Int) = (0 : Int)) => ?_) (fun (c33 : (0 : Int) = (0 : Int)) => ?_)
        · exact absurd c33 (by decide)
        · refine gLoadAN 37 X5 hx (H d4_36) rfl rfl rfl ?_
          refine gGetF X5 hx hZ hown (ow hw 37 rfl) Via.refl e5 V (H d4_37) (pc' := 40) rfl (fun T6 X6 e6 => ?_)
          refine gLoadAN 41 X6 hx (H d4_40) rfl rfl rfl ?_
          refine gGetF X6 hx hZ hown (ow hw 37 rfl) Via.refl e6 V2 (H d4_41) (pc' := 44) rfl (fun T7 X7 e7 => ?_)
          refine gCallSJ X7 hx hZ (y := mn12) hown e7 (by rw [hml]; rfl) (ow hw 97 rfl) (ow hw 98 rfl) (ow hw 99 rfl) (ow hw 100 rfl) (by decide) (argsL := [(.ref t), (.ref u)]) (st := []) (c_sl l Z a0 hw t u ck ck2 xs ys h0 hx3 hy3 rx ry A A2) (lenOf pd_10 rfl) (H d4_44) (pc' := 47) rfl rfl rfl rfl (by decide) (W := 0) (Nat.le_of_eq rfl) (by decide) (by decide) (by decide) ?_
          intro T8 X8 e8
          refine gIfEq X8 hx (H d4_47) (pc' := 54) (by decide) (by decide) (pn := 50) rfl (fun (c47 : (b2i (decide (xs = ys))) = (0 : Int32)) => ?_) (fun (c47 : ¬ (b2i (decide (xs = ys))) = (0 : Int32)) => ?_)
          · refine gIconst 55 X8 hx (v := (0 : Int32)) (H d4_54) rfl rfl ?_
            exact gRetN X8 hx hlk hret (by simp) (H d4_55) (w := (0 : Int32)) rfl (by decide) (by decide) (just_f (of_decide_eq_false (b2_0.mp c47)) e8)
          · refine gIconst 51 X8 hx (v := (1 : Int32)) (H d4_50) rfl rfl ?_
            refine gGoto X8 hx (H d4_51) (pc' := 55) (by decide) (by decide) ?_
            exact gRetN X8 hx hlk hret (by simp) (H d4_55) (w := (1 : Int32)) rfl (by decide) (by decide) (just_t (of_decide_eq_true (b2_n0.mp c47)) e8)
  · refine gIconst 6 X0 hx (v := (1 : Int32)) (H d4_5) rfl rfl ?_
    exact gRetN X0 hx hlk hret (by simp) (H d4_6) (w := (1 : Int32)) rfl (by decide) (by decide) (just_t (hab (Value.ref.inj c2)) e0)
theorem d16_0 : decode prog_5_method_8_code 0 = .ok (.aload_n 1, 1) := by decide +kernel
theorem d16_1 : decode prog_5_method_8_code 1 = .ok (.instanceof 18, 3) := by decide +kernel
theorem d16_4 : decode prog_5_method_8_code 4 = .ok (.ifCond .eq 62, 3) := by decide +kernel
theorem d16_66 : decode prog_5_method_8_code 66 = .ok (.iconst 0, 1) := by decide +kernel
theorem d16_67 : decode prog_5_method_8_code 67 = .ok (.ireturn, 1) := by decide +kernel
abbrev mn1 : MethodName := ⟨"com/example/strict_chain/strictchain/Finding", "equals", "(Ljava/lang/Object;)Z"⟩
theorem c_feq0 (l : Launch) (Z : State) (a0 : Array Value) (hw : ∀ d ∈ tables_1, d.before a0 Z = true) (f : Addr) (h0 : Heap)  :
    Ctr l Z mn1 prog_5_method_8_code 3 (some .boolean) [] ⟨0, 0, 0, 0⟩ #[(.ref f), .null] h0 (Just h0 (.int 0)) := by
  refine Ctr.of (plainFor_of_name pn_0) ?_
  intro p e s m below meth c s₁ hx H hml hret hown hnm hZ hlk X0 e0
  refine Goes.cast (show entryFrame m _ _ = mkF m 0 #[.val (.ref f), .val .null, .unset] [] from rfl) ?_
  refine gLoadAN 1 X0 hx (H d16_0) rfl rfl rfl ?_
  refine gInstZ X0 hx (H d16_1) (pc' := 4) rfl ?_
  refine gIfEqT X0 hx (H d16_4) (pc' := 66) (by decide) (by decide) (pn := 7) rfl (fun (c4 : (0 : Int) = (0 : Int)) => ?_) (fun (c4 : ¬ (0 : Int) = (0 : Int)) => ?_)
  · refine gIconst 67 X0 hx (v := (0 : Int32)) (H d16_66) rfl rfl ?_
    exact gRetN X0 hx hlk hret (by simp) (H d16_67) (w := (0 : Int32)) rfl (by decide) (by decide) (⟨rfl, e0, rfl⟩)
  · exact absurd c4 (by decide)
theorem c_feqS (l : Launch) (Z : State) (a0 : Array Value) (hw : ∀ d ∈ tables_1, d.before a0 Z = true) (f x : Addr) (h0 : Heap) (E : sE Z h0 x) :
    Ctr l Z mn1 prog_5_method_8_code 3 (some .boolean) [] ⟨0, 0, 0, 0⟩ #[(.ref f), (.ref x)] h0 (Just h0 (.int 0)) := by
  refine Ctr.of (plainFor_of_name pn_0) ?_
  intro p e s m below meth c s₁ hx H hml hret hown hnm hZ hlk X0 e0
  refine Goes.cast (show entryFrame m _ _ = mkF m 0 #[.val (.ref f), .val (.ref x), .unset] [] from rfl) ?_
  refine gLoadAN 1 X0 hx (H d16_0) rfl rfl rfl ?_
  refine gInstN X0 hx hZ hown (ow hw 89 rfl) e0 E (own_notcast (ow hw 114 rfl) (ow hw 115 rfl) (ow hw 40 rfl) (by decide) (by decide)) (H d16_1) (pc' := 4) rfl (fun T1 X1 e1 => ?_)
  refine gIfEqT X1 hx (H d16_4) (pc' := 66) (by decide) (by decide) (pn := 7) rfl (fun (c4 : (0 : Int) = (0 : Int)) => ?_) (fun (c4 : ¬ (0 : Int) = (0 : Int)) => ?_)
  · refine gIconst 67 X1 hx (v := (0 : Int32)) (H d16_66) rfl rfl ?_
    exact gRetN X1 hx hlk hret (by simp) (H d16_67) (w := (0 : Int32)) rfl (by decide) (by decide) (⟨rfl, e1, rfl⟩)
  · exact absurd c4 (by decide)
theorem d16_7 : decode prog_5_method_8_code 7 = .ok (.aload_n 1, 1) := by decide +kernel
theorem d16_8 : decode prog_5_method_8_code 8 = .ok (.checkcast 18, 3) := by decide +kernel
theorem d16_11 : decode prog_5_method_8_code 11 = .ok (.astore_n 2, 1) := by decide +kernel
theorem d16_12 : decode prog_5_method_8_code 12 = .ok (.aload_n 0, 1) := by decide +kernel
theorem d16_13 : decode prog_5_method_8_code 13 = .ok (.getfield 17, 3) := by decide +kernel
theorem d16_16 : decode prog_5_method_8_code 16 = .ok (.aload_n 2, 1) := by decide +kernel
theorem d16_17 : decode prog_5_method_8_code 17 = .ok (.getfield 17, 3) := by decide +kernel
theorem d16_20 : decode prog_5_method_8_code 20 = .ok (.if_acmp .ne 46, 3) := by decide +kernel
theorem d16_23 : decode prog_5_method_8_code 23 = .ok (.aload_n 0, 1) := by decide +kernel
theorem d16_24 : decode prog_5_method_8_code 24 = .ok (.getfield 26, 3) := by decide +kernel
theorem d16_27 : decode prog_5_method_8_code 27 = .ok (.aload_n 2, 1) := by decide +kernel
theorem d16_28 : decode prog_5_method_8_code 28 = .ok (.getfield 26, 3) := by decide +kernel
theorem d16_31 : decode prog_5_method_8_code 31 = .ok (.if_acmp .ne 35, 3) := by decide +kernel
theorem d16_34 : decode prog_5_method_8_code 34 = .ok (.aload_n 0, 1) := by decide +kernel
theorem d16_35 : decode prog_5_method_8_code 35 = .ok (.getfield 33, 3) := by decide +kernel
theorem d16_38 : decode prog_5_method_8_code 38 = .ok (.aload_n 2, 1) := by decide +kernel
theorem d16_39 : decode prog_5_method_8_code 39 = .ok (.getfield 33, 3) := by decide +kernel
theorem d16_42 : decode prog_5_method_8_code 42 = .ok (.invokevirtual 101, 3) := by decide +kernel
theorem pd_7 : parseMethodDescriptor "(Ljava/lang/Object;)Z" = some ⟨[(.object "java/lang/Object")], some .boolean⟩ := by decide +kernel
theorem d16_45 : decode prog_5_method_8_code 45 = .ok (.ifCond .eq 21, 3) := by decide +kernel
theorem d16_48 : decode prog_5_method_8_code 48 = .ok (.aload_n 0, 1) := by decide +kernel
theorem d16_49 : decode prog_5_method_8_code 49 = .ok (.getfield 38, 3) := by decide +kernel
theorem d16_52 : decode prog_5_method_8_code 52 = .ok (.aload_n 2, 1) := by decide +kernel
theorem d16_53 : decode prog_5_method_8_code 53 = .ok (.getfield 38, 3) := by decide +kernel
theorem d16_56 : decode prog_5_method_8_code 56 = .ok (.invokevirtual 101, 3) := by decide +kernel
theorem d16_59 : decode prog_5_method_8_code 59 = .ok (.ifCond .eq 7, 3) := by decide +kernel
theorem d16_62 : decode prog_5_method_8_code 62 = .ok (.iconst 1, 1) := by decide +kernel
theorem d16_63 : decode prog_5_method_8_code 63 = .ok (.goto 4, 3) := by decide +kernel
theorem c_feq (l : Launch) (Z : State) (a0 : Array Value) (hw : ∀ d ∈ tables_1, d.before a0 Z = true) (f g k1 u1 x1 y1 k2 u2 x2 y2 : Addr) (xs1 xs2 ys1 ys2 : List Int32) (h0 : Heap) (hCpt : Cpt Z h0) (hx1 : xs1.length ≤ 3) (rx1 : ∀ c ∈ xs1, rg c) (SX1 : StrL Z h0 x1 xs1) (hx2 : xs2.length ≤ 3) (rx2 : ∀ c ∈ xs2, rg c) (SX2 : StrL Z h0 x2 xs2) (hy1 : ys1.length ≤ 3) (ry1 : ∀ c ∈ ys1, rg c) (SY1 : StrL Z h0 y1 ys1) (hy2 : ys2.length ≤ 3) (ry2 : ∀ c ∈ ys2, rg c) (SY2 : StrL Z h0 y2 ys2) (hex : x1 = x2 → xs1 = xs2) (hey : y1 = y2 → ys1 = ys2) (E : Exa Z h0 f "com/example/strict_chain/strictchain/Finding") (F_kind : Fld Z h0 f "com/example/strict_chain/strictchain/Finding" "kind" "Lcom/example/strict_chain/strictchain/Finding$Kind;" (.ref k1)) (F_subject : Fld Z h0 f "com/example/strict_chain/strictchain/Finding" "subject" "Lcom/example/strict_chain/strictchain/Finding$Subject;" (.ref u1)) (F_subjectValue : Fld Z h0 f "com/example/strict_chain/strictchain/Finding" "subjectValue" "Ljava/lang/String;" (.ref x1)) (F_explanation : Fld Z h0 f "com/example/strict_chain/strictchain/Finding" "explanation" "Ljava/lang/String;" (.ref y1)) (E2 : Exa Z h0 g "com/example/strict_chain/strictchain/Finding") (G_kind : Fld Z h0 g "com/example/strict_chain/strictchain/Finding" "kind" "Lcom/example/strict_chain/strictchain/Finding$Kind;" (.ref k2)) (G_subject : Fld Z h0 g "com/example/strict_chain/strictchain/Finding" "subject" "Lcom/example/strict_chain/strictchain/Finding$Subject;" (.ref u2)) (G_subjectValue : Fld Z h0 g "com/example/strict_chain/strictchain/Finding" "subjectValue" "Ljava/lang/String;" (.ref x2)) (G_explanation : Fld Z h0 g "com/example/strict_chain/strictchain/Finding" "explanation" "Ljava/lang/String;" (.ref y2)) :
    Ctr l Z mn1 prog_5_method_8_code 3 (some .boolean) [] ⟨2, 0, 0, 32⟩ #[(.ref f), (.ref g)] h0 (Just h0 (.int (b2i (decide (k1 = k2 ∧ u1 = u2 ∧ xs1 = xs2 ∧ ys1 = ys2))))) := by
  refine Ctr.of (plainFor_of_name pn_0) ?_
  intro p e s m below meth c s₁ hx H hml hret hown hnm hZ hlk X0 e0
  refine Goes.cast (show entryFrame m _ _ = mkF m 0 #[.val (.ref f), .val (.ref g), .unset] [] from rfl) ?_
  refine gLoadAN 1 X0 hx (H d16_0) rfl rfl rfl ?_
  refine gInstY X0 hx hZ hown (ow hw 89 rfl) e0 (Ins.self E2) (H d16_1) (pc' := 4) rfl (fun T1 X1 e1 => ?_)
  refine gIfEqT X1 hx (H d16_4) (pc' := 66) (by decide) (by decide) (pn := 7) rfl (fun (c4 : (1 : Int) = (0 : Int)) => ?_) (fun (c4 : ¬ (1 : Int) = (0 : Int)) => ?_)
  · exact absurd c4 (by decide)
  · refine gLoadAN 8 X1 hx (H d16_7) rfl rfl rfl ?_
    refine gCast X1 hx hZ hown (ow hw 89 rfl) e1 (Ins.self E2) (H d16_8) (pc' := 11) rfl (fun T2 X2 e2 => ?_)
    refine gStoreAN 12 X2 hx (H d16_11) (l' := #[.val (.ref f), .val (.ref g), .val (.ref g)]) rfl rfl rfl ?_
    refine gLoadAN 13 X2 hx (H d16_12) rfl rfl rfl ?_
    refine gGetF X2 hx hZ hown (ow hw 67 rfl) Via.refl e2 F_kind (H d16_13) (pc' := 16) rfl (fun T3 X3 e3 => ?_)
    refine gLoadAN 17 X3 hx (H d16_16) rfl rfl rfl ?_
    refine gGetF X3 hx hZ hown (ow hw 67 rfl) Via.refl e3 G_kind (H d16_17) (pc' := 20) rfl (fun T4 X4 e4 => ?_)
    refine gAcmpNe X4 hx (H d16_20) rfl rfl (pc' := 66) (by decide) (by decide) (pn := 23) rfl (fun (c20 : ¬ (Value.ref k1) = (.ref k2)) => ?_) (fun (c20 : (Value.ref k1) = (.ref k2)) => ?_)
    · refine gIconst 67 X4 hx (v := (0 : Int32)) (H d16_66) rfl rfl ?_
      exact gRetN X4 hx hlk hret (by simp) (H d16_67) (w := (0 : Int32)) rfl (by decide) (by decide) (just_f (fun q => c20 (by rw [q.1])) e4)
    · refine gLoadAN 24 X4 hx (H d16_23) rfl rfl rfl ?_
      refine gGetF X4 hx hZ hown (ow hw 72 rfl) Via.refl e4 F_subject (H d16_24) (pc' := 27) rfl (fun T5 X5 e5 => ?_)
      refine gLoadAN 28 X5 hx (H d16_27) rfl rfl rfl ?_
      refine gGetF X5 hx hZ hown (ow hw 72 rfl) Via.refl e5 G_subject (H d16_28) (pc' := 31) rfl (fun T6 X6 e6 => ?_)
      refine gAcmpNe X6 hx (H d16_31) rfl rfl (pc' := 66) (by decide) (by decide) (pn := 34) rfl (fun (c31 : ¬ (Value.ref u1) = (.ref u2)) => ?_) (fun (c31 : (Value.ref u1) = (.ref u2)) => ?_)
      · refine gIconst 67 X6 hx (v := (0 : Int32)) (H d16_66) rfl rfl ?_
        exact gRetN X6 hx hlk hret (by simp) (H d16_67) (w := (0 : Int32)) rfl (by decide) (by decide) (just_f (fun q => c31 (by rw [q.2.1])) e6)
      · refine gLoadAN 35 X6 hx (H d16_34) rfl rfl rfl ?_
        refine gGetF X6 hx hZ hown (ow hw 76 rfl) Via.refl e6 F_subjectValue (H d16_35) (pc' := 38) rfl (fun T7 X7 e7 => ?_)
        refine gLoadAN 39 X7 hx (H d16_38) rfl rfl rfl ?_
        refine gGetF X7 hx hZ hown (ow hw 76 rfl) Via.refl e7 G_subjectValue (H d16_39) (pc' := 42) rfl (fun T8 X8 e8 => ?_)
        refine gCallVJ X8 hx hZ (y := mn11) hown e8 (by rw [hml]; rfl) SX1.exa (ow hw 91 rfl) (ow hw 92 rfl) (ow hw 94 rfl) (ow hw 93 rfl) (ow hw 11 rfl) (ow hw 95 rfl) (by decide) (argsL := [(.ref x2)]) (st := []) (c_streq l Z a0 hw x1 x2 xs1 xs2 h0 hCpt hx1 hx2 rx1 rx2 SX1 SX2 hex) (lenOf pd_7 rfl) (H d16_42) (pc' := 45) rfl rfl rfl rfl (by decide) (W := 0) (Nat.le_of_eq rfl) (by decide) (by decide) (by decide) ?_
        intro T9 X9 e9
        refine gIfEq X9 hx (H d16_45) (pc' := 66) (by decide) (by decide) (pn := 48) rfl (fun (c45 : (b2i (decide (xs1 = xs2))) = (0 : Int32)) => ?_) (fun (c45 : ¬ (b2i (decide (xs1 = xs2))) = (0 : Int32)) => ?_)
        · refine gIconst 67 X9 hx (v := (0 : Int32)) (H d16_66) rfl rfl ?_
          exact gRetN X9 hx hlk hret (by simp) (H d16_67) (w := (0 : Int32)) rfl (by decide) (by decide) (just_f (fun q => (of_decide_eq_false (b2_0.mp c45)) q.2.2.1) e9)
        · refine gLoadAN 49 X9 hx (H d16_48) rfl rfl rfl ?_
          refine gGetF X9 hx hZ hown (ow hw 79 rfl) Via.refl e9 F_explanation (H d16_49) (pc' := 52) rfl (fun T10 X10 e10 => ?_)
          refine gLoadAN 53 X10 hx (H d16_52) rfl rfl rfl ?_
          refine gGetF X10 hx hZ hown (ow hw 79 rfl) Via.refl e10 G_explanation (H d16_53) (pc' := 56) rfl (fun T11 X11 e11 => ?_)
          refine gCallVJ X11 hx hZ (y := mn11) hown e11 (by rw [hml]; rfl) SY1.exa (ow hw 91 rfl) (ow hw 92 rfl) (ow hw 94 rfl) (ow hw 93 rfl) (ow hw 11 rfl) (ow hw 95 rfl) (by decide) (argsL := [(.ref y2)]) (st := []) (c_streq l Z a0 hw y1 y2 ys1 ys2 h0 hCpt hy1 hy2 ry1 ry2 SY1 SY2 hey) (lenOf pd_7 rfl) (H d16_56) (pc' := 59) rfl rfl rfl rfl (by decide) (W := 0) (Nat.le_of_eq rfl) (by decide) (by decide) (by decide) ?_
          intro T12 X12 e12
          refine gIfEq X12 hx (H d16_59) (pc' := 66) (by decide) (by decide) (pn := 62) rfl (fun (c59 : (b2i (decide (ys1 = ys2))) = (0 : Int32)) => ?_) (fun (c59 : ¬ (b2i (decide (ys1 = ys2))) = (0 : Int32)) => ?_)
          · refine gIconst 67 X12 hx (v := (0 : Int32)) (H d16_66) rfl rfl ?_
            exact gRetN X12 hx hlk hret (by simp) (H d16_67) (w := (0 : Int32)) rfl (by decide) (by decide) (just_f (fun q => (of_decide_eq_false (b2_0.mp c59)) q.2.2.2) e12)
          · refine gIconst 63 X12 hx (v := (1 : Int32)) (H d16_62) rfl rfl ?_
            refine gGoto X12 hx (H d16_63) (pc' := 67) (by decide) (by decide) ?_
            exact gRetN X12 hx hlk hret (by simp) (H d16_67) (w := (1 : Int32)) rfl (by decide) (by decide) (just_t ⟨Value.ref.inj c20, Value.ref.inj c31, of_decide_eq_true (b2_n0.mp c45), of_decide_eq_true (b2_n0.mp c59)⟩ e12)
theorem d13_0 : decode method_7_code 0 = .ok (.lload_n 0, 1) := by decide +kernel
theorem d13_1 : decode method_7_code 1 = .ok (.ldc2_w 66, 3) := by decide +kernel
theorem d13_4 : decode method_7_code 4 = .ok (.land, 1) := by decide +kernel
theorem d13_5 : decode method_7_code 5 = .ok (.l2i, 1) := by decide +kernel
theorem d13_6 : decode method_7_code 6 = .ok (.istore 4, 2) := by decide +kernel
theorem d13_8 : decode method_7_code 8 = .ok (.iload 4, 2) := by decide +kernel
theorem d13_10 : decode method_7_code 10 = .ok (.lload_n 2, 1) := by decide +kernel
theorem d13_11 : decode method_7_code 11 = .ok (.ldc2_w 66, 3) := by decide +kernel
theorem d13_14 : decode method_7_code 14 = .ok (.land, 1) := by decide +kernel
theorem d13_15 : decode method_7_code 15 = .ok (.l2i, 1) := by decide +kernel
theorem d13_16 : decode method_7_code 16 = .ok (.if_icmp .eq 5, 3) := by decide +kernel
theorem d13_21 : decode method_7_code 21 = .ok (.iconst 1, 1) := by decide +kernel
theorem d13_22 : decode method_7_code 22 = .ok (.istore 5, 2) := by decide +kernel
theorem d13_24 : decode method_7_code 24 = .ok (.iload 4, 2) := by decide +kernel
theorem d13_26 : decode method_7_code 26 = .ok (.iconst 1, 1) := by decide +kernel
theorem d13_27 : decode method_7_code 27 = .ok (.if_icmp .lt 28, 3) := by decide +kernel
theorem d13_55 : decode method_7_code 55 = .ok (.iload 4, 2) := by decide +kernel
theorem d13_57 : decode method_7_code 57 = .ok (.iconst 2, 1) := by decide +kernel
theorem d13_58 : decode method_7_code 58 = .ok (.if_icmp .lt 28, 3) := by decide +kernel
theorem d13_86 : decode method_7_code 86 = .ok (.iload 4, 2) := by decide +kernel
theorem d13_88 : decode method_7_code 88 = .ok (.iconst 3, 1) := by decide +kernel
theorem d13_89 : decode method_7_code 89 = .ok (.if_icmp .lt 28, 3) := by decide +kernel
theorem d13_117 : decode method_7_code 117 = .ok (.iload 5, 2) := by decide +kernel
theorem d13_119 : decode method_7_code 119 = .ok (.ireturn, 1) := by decide +kernel
theorem d13_19 : decode method_7_code 19 = .ok (.iconst 0, 1) := by decide +kernel
theorem d13_20 : decode method_7_code 20 = .ok (.ireturn, 1) := by decide +kernel
theorem d13_30 : decode method_7_code 30 = .ok (.iload 5, 2) := by decide +kernel
theorem d13_32 : decode method_7_code 32 = .ok (.ifCond .eq 20, 3) := by decide +kernel
theorem d13_35 : decode method_7_code 35 = .ok (.lload_n 0, 1) := by decide +kernel
theorem d13_36 : decode method_7_code 36 = .ok (.iconst 0, 1) := by decide +kernel
theorem d13_37 : decode method_7_code 37 = .ok (.invokestatic 68, 3) := by decide +kernel
theorem d13_40 : decode method_7_code 40 = .ok (.lload_n 2, 1) := by decide +kernel
theorem d13_41 : decode method_7_code 41 = .ok (.iconst 0, 1) := by decide +kernel
theorem d13_42 : decode method_7_code 42 = .ok (.invokestatic 68, 3) := by decide +kernel
theorem d13_45 : decode method_7_code 45 = .ok (.if_icmp .ne 7, 3) := by decide +kernel
theorem d13_52 : decode method_7_code 52 = .ok (.iconst 0, 1) := by decide +kernel
theorem d13_53 : decode method_7_code 53 = .ok (.istore 5, 2) := by decide +kernel
theorem d13_48 : decode method_7_code 48 = .ok (.iconst 1, 1) := by decide +kernel
theorem d13_49 : decode method_7_code 49 = .ok (.goto 4, 3) := by decide +kernel
theorem d13_61 : decode method_7_code 61 = .ok (.iload 5, 2) := by decide +kernel
theorem d13_63 : decode method_7_code 63 = .ok (.ifCond .eq 20, 3) := by decide +kernel
theorem d13_83 : decode method_7_code 83 = .ok (.iconst 0, 1) := by decide +kernel
theorem d13_84 : decode method_7_code 84 = .ok (.istore 5, 2) := by decide +kernel
theorem d13_66 : decode method_7_code 66 = .ok (.lload_n 0, 1) := by decide +kernel
theorem d13_67 : decode method_7_code 67 = .ok (.iconst 1, 1) := by decide +kernel
theorem d13_68 : decode method_7_code 68 = .ok (.invokestatic 68, 3) := by decide +kernel
theorem d13_71 : decode method_7_code 71 = .ok (.lload_n 2, 1) := by decide +kernel
theorem d13_72 : decode method_7_code 72 = .ok (.iconst 1, 1) := by decide +kernel
theorem d13_73 : decode method_7_code 73 = .ok (.invokestatic 68, 3) := by decide +kernel
theorem d13_76 : decode method_7_code 76 = .ok (.if_icmp .ne 7, 3) := by decide +kernel
theorem d13_79 : decode method_7_code 79 = .ok (.iconst 1, 1) := by decide +kernel
theorem d13_80 : decode method_7_code 80 = .ok (.goto 4, 3) := by decide +kernel
theorem d13_92 : decode method_7_code 92 = .ok (.iload 5, 2) := by decide +kernel
theorem d13_94 : decode method_7_code 94 = .ok (.ifCond .eq 20, 3) := by decide +kernel
theorem d13_114 : decode method_7_code 114 = .ok (.iconst 0, 1) := by decide +kernel
theorem d13_115 : decode method_7_code 115 = .ok (.istore 5, 2) := by decide +kernel
theorem d13_97 : decode method_7_code 97 = .ok (.lload_n 0, 1) := by decide +kernel
theorem d13_98 : decode method_7_code 98 = .ok (.iconst 2, 1) := by decide +kernel
theorem d13_99 : decode method_7_code 99 = .ok (.invokestatic 68, 3) := by decide +kernel
theorem d13_102 : decode method_7_code 102 = .ok (.lload_n 2, 1) := by decide +kernel
theorem d13_103 : decode method_7_code 103 = .ok (.iconst 2, 1) := by decide +kernel
theorem d13_104 : decode method_7_code 104 = .ok (.invokestatic 68, 3) := by decide +kernel
theorem d13_107 : decode method_7_code 107 = .ok (.if_icmp .ne 7, 3) := by decide +kernel
theorem d13_110 : decode method_7_code 110 = .ok (.iconst 1, 1) := by decide +kernel
theorem d13_111 : decode method_7_code 111 = .ok (.goto 4, 3) := by decide +kernel
abbrev mn5 : MethodName := ⟨"com/example/strict_chain/strictchain/FindingEqualsPinLaw", "sameText", "(JJ)Z"⟩
theorem c_same0 (l : Launch) (Z : State) (a0 : Array Value) (hw : ∀ d ∈ tables_1, d.before a0 Z = true) (x y : Int64) (n m' ch0 ch1 ch2 cx0 cx1 cx2 : Int32) (h0 : Heap) (hn : n = 0 ∨ n = 1 ∨ n = 2 ∨ n = 3) (hm : m' = 0 ∨ m' = 1 ∨ m' = 2 ∨ m' = 3) (en : ((x &&& (3 : Int64)).toInt32) = n) (em : ((y &&& (3 : Int64)).toInt32) = m') (ech0 : ch0 = chv x 0) (ech1 : ch1 = chv x 1) (ech2 : ch2 = chv x 2) (ecx0 : cx0 = chv y 0) (ecx1 : cx1 = chv y 1) (ecx2 : cx2 = chv y 2) :
    Ctr l Z mn5 method_7_code 6 (some .boolean) [] ⟨1, 0, 0, 16⟩ #[(.long x), (.long y)] h0 (Just h0 (.int (b2i (decide (txl n ch0 ch1 ch2 = txl m' cx0 cx1 cx2))))) := by
  refine Ctr.of (plainFor_of_name pn_1) ?_
  intro p e s m below meth c s₁ hx H hml hret hown hnm hZ hlk X0 e0
  refine Goes.cast (show entryFrame m _ _ = mkF m 0 #[.val (.long x), .second, .val (.long y), .second, .unset, .unset] [] from rfl) ?_
  refine gLoadJN 1 X0 hx (H d13_0) rfl rfl ?_
  refine gLdc2 4 X0 hx hZ hown (ow hw 4 rfl) (H d13_1) rfl ?_
  refine gLand 5 X0 hx (H d13_4) rfl ?_
  refine gL2i 6 X0 hx (H d13_5) rfl ?_
  rw [en]
  rcases hn with rfl | rfl | rfl | rfl
  · refine gStoreI 8 X0 hx (H d13_6) (l' := #[.val (.long x), .second, .val (.long y), .second, .val (.int (0 : Int32)), .unset]) rfl rfl ?_
    refine gLoadI 10 X0 hx (H d13_8) rfl rfl ?_
    refine gLoadJN 11 X0 hx (H d13_10) rfl rfl ?_
    refine gLdc2 14 X0 hx hZ hown (ow hw 4 rfl) (H d13_11) rfl ?_
    refine gLand 15 X0 hx (H d13_14) rfl ?_
    refine gL2i 16 X0 hx (H d13_15) rfl ?_
    rw [em]
    refine gIcmpEq X0 hx (H d13_16) (pc' := 21) (by decide) (by decide) (pn := 19) rfl (fun (c16 : (0 : Int32) = m') => ?_) (fun (c16 : ¬ (0 : Int32) = m') => ?_)
    · refine gIconst 22 X0 hx (v := (1 : Int32)) (H d13_21) rfl rfl ?_
      refine gStoreI 24 X0 hx (H d13_22) (l' := #[.val (.long x), .second, .val (.long y), .second, .val (.int (0 : Int32)), .val (.int (1 : Int32))]) rfl rfl ?_
      refine gLoadI 26 X0 hx (H d13_24) rfl rfl ?_
      refine gIconst 27 X0 hx (v := (1 : Int32)) (H d13_26) rfl rfl ?_
      refine gIcmpLt X0 hx (H d13_27) (pc' := 55) (by decide) (by decide) (pn := 30) rfl (fun (c27 : (0 : Int) < (1 : Int)) => ?_) (fun (c27 : (1 : Int) ≤ (0 : Int)) => ?_)
      · refine gLoadI 57 X0 hx (H d13_55) rfl rfl ?_
        refine gIconst 58 X0 hx (v := (2 : Int32)) (H d13_57) rfl rfl ?_
        refine gIcmpLt X0 hx (H d13_58) (pc' := 86) (by decide) (by decide) (pn := 61) rfl (fun (c58 : (0 : Int) < (2 : Int)) => ?_) (fun (c58 : (2 : Int) ≤ (0 : Int)) => ?_)
        · refine gLoadI 88 X0 hx (H d13_86) rfl rfl ?_
          refine gIconst 89 X0 hx (v := (3 : Int32)) (H d13_88) rfl rfl ?_
          refine gIcmpLt X0 hx (H d13_89) (pc' := 117) (by decide) (by decide) (pn := 92) rfl (fun (c89 : (0 : Int) < (3 : Int)) => ?_) (fun (c89 : (3 : Int) ≤ (0 : Int)) => ?_)
          · refine gLoadI 119 X0 hx (H d13_117) rfl rfl ?_
            exact gRetN X0 hx hlk hret (by simp) (H d13_119) (w := (1 : Int32)) rfl (by decide) (by decide) (just_t (by rw [← c16, txl_0, txl_0]) e0)
          · exact absurd c89 (by decide)
        · exact absurd c58 (by decide)
      · exact absurd c27 (by decide)
    · refine gIconst 20 X0 hx (v := (0 : Int32)) (H d13_19) rfl rfl ?_
      exact gRetN X0 hx hlk hret (by simp) (H d13_20) (w := (0 : Int32)) rfl (by decide) (by decide) (just_f (txl_ne (Or.inl rfl) hm c16) e0)
  · refine gStoreI 8 X0 hx (H d13_6) (l' := #[.val (.long x), .second, .val (.long y), .second, .val (.int (1 : Int32)), .unset]) rfl rfl ?_
    refine gLoadI 10 X0 hx (H d13_8) rfl rfl ?_
    refine gLoadJN 11 X0 hx (H d13_10) rfl rfl ?_
    refine gLdc2 14 X0 hx hZ hown (ow hw 4 rfl) (H d13_11) rfl ?_
    refine gLand 15 X0 hx (H d13_14) rfl ?_
    refine gL2i 16 X0 hx (H d13_15) rfl ?_
    rw [em]
    refine gIcmpEq X0 hx (H d13_16) (pc' := 21) (by decide) (by decide) (pn := 19) rfl (fun (c16 : (1 : Int32) = m') => ?_) (fun (c16 : ¬ (1 : Int32) = m') => ?_)
    · refine gIconst 22 X0 hx (v := (1 : Int32)) (H d13_21) rfl rfl ?_
      refine gStoreI 24 X0 hx (H d13_22) (l' := #[.val (.long x), .second, .val (.long y), .second, .val (.int (1 : Int32)), .val (.int (1 : Int32))]) rfl rfl ?_
      refine gLoadI 26 X0 hx (H d13_24) rfl rfl ?_
      refine gIconst 27 X0 hx (v := (1 : Int32)) (H d13_26) rfl rfl ?_
      refine gIcmpLt X0 hx (H d13_27) (pc' := 55) (by decide) (by decide) (pn := 30) rfl (fun (c27 : (1 : Int) < (1 : Int)) => ?_) (fun (c27 : (1 : Int) ≤ (1 : Int)) => ?_)
      · exact absurd c27 (by decide)
      · refine gLoadI 32 X0 hx (H d13_30) rfl rfl ?_
        refine gIfEq X0 hx (H d13_32) (pc' := 52) (by decide) (by decide) (pn := 35) rfl (fun (c32 : (1 : Int32) = (0 : Int32)) => ?_) (fun (c32 : ¬ (1 : Int32) = (0 : Int32)) => ?_)
        · exact absurd c32 (by decide)
        · refine gLoadJN 36 X0 hx (H d13_35) rfl rfl ?_
          refine gIconst 37 X0 hx (v := (0 : Int32)) (H d13_36) rfl rfl ?_
          refine gCallSJ X0 hx hZ (y := mn2) hown e0 (by rw [hml]; rfl) (ow hw 5 rfl) (ow hw 6 rfl) (ow hw 2 rfl) (ow hw 7 rfl) (by decide) (argsL := [(.long x), (.int (0 : Int32))]) (st := []) (c_ch l Z a0 hw x 0 ch0 ech0 h0) (lenOf pd_4 rfl) (H d13_37) (pc' := 40) rfl rfl rfl rfl (by decide) (W := 0) (Nat.le_of_eq rfl) (by decide) (by decide) (by decide) ?_
          intro T1 X1 e1
          refine gLoadJN 41 X1 hx (H d13_40) rfl rfl ?_
          refine gIconst 42 X1 hx (v := (0 : Int32)) (H d13_41) rfl rfl ?_
          refine gCallSJ X1 hx hZ (y := mn2) hown e1 (by rw [hml]; rfl) (ow hw 5 rfl) (ow hw 6 rfl) (ow hw 2 rfl) (ow hw 7 rfl) (by decide) (argsL := [(.long y), (.int (0 : Int32))]) (st := [(.int ch0)]) (c_ch l Z a0 hw y 0 cx0 ecx0 h0) (lenOf pd_4 rfl) (H d13_42) (pc' := 45) rfl rfl rfl rfl (by decide) (W := 1) (Nat.le_of_eq rfl) (by decide) (by decide) (by decide) ?_
          intro T2 X2 e2
          refine gIcmpNe X2 hx (H d13_45) (pc' := 52) (by decide) (by decide) (pn := 48) rfl (fun (c45 : ¬ ch0 = cx0) => ?_) (fun (c45 : ch0 = cx0) => ?_)
          · refine gIconst 53 X2 hx (v := (0 : Int32)) (H d13_52) rfl rfl ?_
            refine gStoreI 55 X2 hx (H d13_53) (l' := #[.val (.long x), .second, .val (.long y), .second, .val (.int (1 : Int32)), .val (.int (0 : Int32))]) rfl rfl ?_
            refine gLoadI 57 X2 hx (H d13_55) rfl rfl ?_
            refine gIconst 58 X2 hx (v := (2 : Int32)) (H d13_57) rfl rfl ?_
            refine gIcmpLt X2 hx (H d13_58) (pc' := 86) (by decide) (by decide) (pn := 61) rfl (fun (c58 : (1 : Int) < (2 : Int)) => ?_) (fun (c58 : (2 : Int) ≤ (1 : Int)) => ?_)
            · refine gLoadI 88 X2 hx (H d13_86) rfl rfl ?_
              refine gIconst 89 X2 hx (v := (3 : Int32)) (H d13_88) rfl rfl ?_
              refine gIcmpLt X2 hx (H d13_89) (pc' := 117) (by decide) (by decide) (pn := 92) rfl (fun (c89 : (1 : Int) < (3 : Int)) => ?_) (fun (c89 : (3 : Int) ≤ (1 : Int)) => ?_)
              · refine gLoadI 119 X2 hx (H d13_117) rfl rfl ?_
                exact gRetN X2 hx hlk hret (by simp) (H d13_119) (w := (0 : Int32)) rfl (by decide) (by decide) (just_f (by intro q; rw [← c16, txl_1, txl_1] at q; cases q; exact absurd rfl c45) e2)
              · exact absurd c89 (by decide)
            · exact absurd c58 (by decide)
          · refine gIconst 49 X2 hx (v := (1 : Int32)) (H d13_48) rfl rfl ?_
            refine gGoto X2 hx (H d13_49) (pc' := 53) (by decide) (by decide) ?_
            refine gStoreI 55 X2 hx (H d13_53) (l' := #[.val (.long x), .second, .val (.long y), .second, .val (.int (1 : Int32)), .val (.int (1 : Int32))]) rfl rfl ?_
            refine gLoadI 57 X2 hx (H d13_55) rfl rfl ?_
            refine gIconst 58 X2 hx (v := (2 : Int32)) (H d13_57) rfl rfl ?_
            refine gIcmpLt X2 hx (H d13_58) (pc' := 86) (by decide) (by decide) (pn := 61) rfl (fun (c58 : (1 : Int) < (2 : Int)) => ?_) (fun (c58 : (2 : Int) ≤ (1 : Int)) => ?_)
            · refine gLoadI 88 X2 hx (H d13_86) rfl rfl ?_
              refine gIconst 89 X2 hx (v := (3 : Int32)) (H d13_88) rfl rfl ?_
              refine gIcmpLt X2 hx (H d13_89) (pc' := 117) (by decide) (by decide) (pn := 92) rfl (fun (c89 : (1 : Int) < (3 : Int)) => ?_) (fun (c89 : (3 : Int) ≤ (1 : Int)) => ?_)
              · refine gLoadI 119 X2 hx (H d13_117) rfl rfl ?_
                exact gRetN X2 hx hlk hret (by simp) (H d13_119) (w := (1 : Int32)) rfl (by decide) (by decide) (just_t (by rw [← c16, txl_1, txl_1, c45]) e2)
              · exact absurd c89 (by decide)
            · exact absurd c58 (by decide)
    · refine gIconst 20 X0 hx (v := (0 : Int32)) (H d13_19) rfl rfl ?_
      exact gRetN X0 hx hlk hret (by simp) (H d13_20) (w := (0 : Int32)) rfl (by decide) (by decide) (just_f (txl_ne (Or.inr (Or.inl rfl)) hm c16) e0)
  · refine gStoreI 8 X0 hx (H d13_6) (l' := #[.val (.long x), .second, .val (.long y), .second, .val (.int (2 : Int32)), .unset]) rfl rfl ?_
    refine gLoadI 10 X0 hx (H d13_8) rfl rfl ?_
    refine gLoadJN 11 X0 hx (H d13_10) rfl rfl ?_
    refine gLdc2 14 X0 hx hZ hown (ow hw 4 rfl) (H d13_11) rfl ?_
    refine gLand 15 X0 hx (H d13_14) rfl ?_
    refine gL2i 16 X0 hx (H d13_15) rfl ?_
    rw [em]
    refine gIcmpEq X0 hx (H d13_16) (pc' := 21) (by decide) (by decide) (pn := 19) rfl (fun (c16 : (2 : Int32) = m') => ?_) (fun (c16 : ¬ (2 : Int32) = m') => ?_)
    · refine gIconst 22 X0 hx (v := (1 : Int32)) (H d13_21) rfl rfl ?_
      refine gStoreI 24 X0 hx (H d13_22) (l' := #[.val (.long x), .second, .val (.long y), .second, .val (.int (2 : Int32)), .val (.int (1 : Int32))]) rfl rfl ?_
      refine gLoadI 26 X0 hx (H d13_24) rfl rfl ?_
      refine gIconst 27 X0 hx (v := (1 : Int32)) (H d13_26) rfl rfl ?_
      refine gIcmpLt X0 hx (H d13_27) (pc' := 55) (by decide) (by decide) (pn := 30) rfl (fun (c27 : (2 : Int) < (1 : Int)) => ?_) (fun (c27 : (1 : Int) ≤ (2 : Int)) => ?_)
      · exact absurd c27 (by decide)
      · refine gLoadI 32 X0 hx (H d13_30) rfl rfl ?_
        refine gIfEq X0 hx (H d13_32) (pc' := 52) (by decide) (by decide) (pn := 35) rfl (fun (c32 : (1 : Int32) = (0 : Int32)) => ?_) (fun (c32 : ¬ (1 : Int32) = (0 : Int32)) => ?_)
        · exact absurd c32 (by decide)
        · refine gLoadJN 36 X0 hx (H d13_35) rfl rfl ?_
          refine gIconst 37 X0 hx (v := (0 : Int32)) (H d13_36) rfl rfl ?_
          refine gCallSJ X0 hx hZ (y := mn2) hown e0 (by rw [hml]; rfl) (ow hw 5 rfl) (ow hw 6 rfl) (ow hw 2 rfl) (ow hw 7 rfl) (by decide) (argsL := [(.long x), (.int (0 : Int32))]) (st := []) (c_ch l Z a0 hw x 0 ch0 ech0 h0) (lenOf pd_4 rfl) (H d13_37) (pc' := 40) rfl rfl rfl rfl (by decide) (W := 0) (Nat.le_of_eq rfl) (by decide) (by decide) (by decide) ?_
          intro T3 X3 e3
          refine gLoadJN 41 X3 hx (H d13_40) rfl rfl ?_
          refine gIconst 42 X3 hx (v := (0 : Int32)) (H d13_41) rfl rfl ?_
          refine gCallSJ X3 hx hZ (y := mn2) hown e3 (by rw [hml]; rfl) (ow hw 5 rfl) (ow hw 6 rfl) (ow hw 2 rfl) (ow hw 7 rfl) (by decide) (argsL := [(.long y), (.int (0 : Int32))]) (st := [(.int ch0)]) (c_ch l Z a0 hw y 0 cx0 ecx0 h0) (lenOf pd_4 rfl) (H d13_42) (pc' := 45) rfl rfl rfl rfl (by decide) (W := 1) (Nat.le_of_eq rfl) (by decide) (by decide) (by decide) ?_
          intro T4 X4 e4
          refine gIcmpNe X4 hx (H d13_45) (pc' := 52) (by decide) (by decide) (pn := 48) rfl (fun (c45 : ¬ ch0 = cx0) => ?_) (fun (c45 : ch0 = cx0) => ?_)
          · refine gIconst 53 X4 hx (v := (0 : Int32)) (H d13_52) rfl rfl ?_
            refine gStoreI 55 X4 hx (H d13_53) (l' := #[.val (.long x), .second, .val (.long y), .second, .val (.int (2 : Int32)), .val (.int (0 : Int32))]) rfl rfl ?_
            refine gLoadI 57 X4 hx (H d13_55) rfl rfl ?_
            refine gIconst 58 X4 hx (v := (2 : Int32)) (H d13_57) rfl rfl ?_
            refine gIcmpLt X4 hx (H d13_58) (pc' := 86) (by decide) (by decide) (pn := 61) rfl (fun (c58 : (2 : Int) < (2 : Int)) => ?_) (fun (c58 : (2 : Int) ≤ (2 : Int)) => ?_)
            · exact absurd c58 (by decide)
            · refine gLoadI 63 X4 hx (H d13_61) rfl rfl ?_
              refine gIfEq X4 hx (H d13_63) (pc' := 83) (by decide) (by decide) (pn := 66) rfl (fun (c63 : (0 : Int32) = (0 : Int32)) => ?_) (fun (c63 : ¬ (0 : Int32) = (0 : Int32)) => ?_)
              · refine gIconst 84 X4 hx (v := (0 : Int32)) (H d13_83) rfl rfl ?_
                refine gStoreI 86 X4 hx (H d13_84) (l' := #[.val (.long x), .second, .val (.long y), .second, .val (.int (2 : Int32)), .val (.int (0 : Int32))]) rfl rfl ?_
                refine gLoadI 88 X4 hx (H d13_86) rfl rfl ?_
                refine gIconst 89 X4 hx (v := (3 : Int32)) (H d13_88) rfl rfl ?_
                refine gIcmpLt X4 hx (H d13_89) (pc' := 117) (by decide) (by decide) (pn := 92) rfl (fun (c89 : (2 : Int) < (3 : Int)) => ?_) (fun (c89 : (3 : Int) ≤ (2 : Int)) => ?_)
                · refine gLoadI 119 X4 hx (H d13_117) rfl rfl ?_
                  exact gRetN X4 hx hlk hret (by simp) (H d13_119) (w := (0 : Int32)) rfl (by decide) (by decide) (just_f (by intro q; rw [← c16, txl_2, txl_2] at q; cases q; exact absurd rfl c45) e4)
                · exact absurd c89 (by decide)
              · exact absurd c63 (by decide)
          · refine gIconst 49 X4 hx (v := (1 : Int32)) (H d13_48) rfl rfl ?_
            refine gGoto X4 hx (H d13_49) (pc' := 53) (by decide) (by decide) ?_
            refine gStoreI 55 X4 hx (H d13_53) (l' := #[.val (.long x), .second, .val (.long y), .second, .val (.int (2 : Int32)), .val (.int (1 : Int32))]) rfl rfl ?_
            refine gLoadI 57 X4 hx (H d13_55) rfl rfl ?_
            refine gIconst 58 X4 hx (v := (2 : Int32)) (H d13_57) rfl rfl ?_
            refine gIcmpLt X4 hx (H d13_58) (pc' := 86) (by decide) (by decide) (pn := 61) rfl (fun (c58 : (2 : Int) < (2 : Int)) => ?_) (fun (c58 : (2 : Int) ≤ (2 : Int)) => ?_)
            · exact absurd c58 (by decide)
            · refine gLoadI 63 X4 hx (H d13_61) rfl rfl ?_
              refine gIfEq X4 hx (H d13_63) (pc' := 83) (by decide) (by decide) (pn := 66) rfl (fun (c63 : (1 : Int32) = (0 : Int32)) => ?_) (fun (c63 : ¬ (1 : Int32) = (0 : Int32)) => ?_)
              · exact absurd c63 (by decide)
              · refine gLoadJN 67 X4 hx (H d13_66) rfl rfl ?_
                refine gIconst 68 X4 hx (v := (1 : Int32)) (H d13_67) rfl rfl ?_
                refine gCallSJ X4 hx hZ (y := mn2) hown e4 (by rw [hml]; rfl) (ow hw 5 rfl) (ow hw 6 rfl) (ow hw 2 rfl) (ow hw 7 rfl) (by decide) (argsL := [(.long x), (.int (1 : Int32))]) (st := []) (c_ch l Z a0 hw x 1 ch1 ech1 h0) (lenOf pd_4 rfl) (H d13_68) (pc' := 71) rfl rfl rfl rfl (by decide) (W := 0) (Nat.le_of_eq rfl) (by decide) (by decide) (by decide) ?_
                intro T5 X5 e5
                refine gLoadJN 72 X5 hx (H d13_71) rfl rfl ?_
                refine gIconst 73 X5 hx (v := (1 : Int32)) (H d13_72) rfl rfl ?_
                refine gCallSJ X5 hx hZ (y := mn2) hown e5 (by rw [hml]; rfl) (ow hw 5 rfl) (ow hw 6 rfl) (ow hw 2 rfl) (ow hw 7 rfl) (by decide) (argsL := [(.long y), (.int (1 : Int32))]) (st := [(.int ch1)]) (c_ch l Z a0 hw y 1 cx1 ecx1 h0) (lenOf pd_4 rfl) (H d13_73) (pc' := 76) rfl rfl rfl rfl (by decide) (W := 1) (Nat.le_of_eq rfl) (by decide) (by decide) (by decide) ?_
                intro T6 X6 e6
                refine gIcmpNe X6 hx (H d13_76) (pc' := 83) (by decide) (by decide) (pn := 79) rfl (fun (c76 : ¬ ch1 = cx1) => ?_) (fun (c76 : ch1 = cx1) => ?_)
                · refine gIconst 84 X6 hx (v := (0 : Int32)) (H d13_83) rfl rfl ?_
                  refine gStoreI 86 X6 hx (H d13_84) (l' := #[.val (.long x), .second, .val (.long y), .second, .val (.int (2 : Int32)), .val (.int (0 : Int32))]) rfl rfl ?_
                  refine gLoadI 88 X6 hx (H d13_86) rfl rfl ?_
                  refine gIconst 89 X6 hx (v := (3 : Int32)) (H d13_88) rfl rfl ?_
                  refine gIcmpLt X6 hx (H d13_89) (pc' := 117) (by decide) (by decide) (pn := 92) rfl (fun (c89 : (2 : Int) < (3 : Int)) => ?_) (fun (c89 : (3 : Int) ≤ (2 : Int)) => ?_)
                  · refine gLoadI 119 X6 hx (H d13_117) rfl rfl ?_
                    exact gRetN X6 hx hlk hret (by simp) (H d13_119) (w := (0 : Int32)) rfl (by decide) (by decide) (just_f (by intro q; rw [← c16, txl_2, txl_2] at q; cases q; exact absurd rfl c76) e6)
                  · exact absurd c89 (by decide)
                · refine gIconst 80 X6 hx (v := (1 : Int32)) (H d13_79) rfl rfl ?_
                  refine gGoto X6 hx (H d13_80) (pc' := 84) (by decide) (by decide) ?_
                  refine gStoreI 86 X6 hx (H d13_84) (l' := #[.val (.long x), .second, .val (.long y), .second, .val (.int (2 : Int32)), .val (.int (1 : Int32))]) rfl rfl ?_
                  refine gLoadI 88 X6 hx (H d13_86) rfl rfl ?_
                  refine gIconst 89 X6 hx (v := (3 : Int32)) (H d13_88) rfl rfl ?_
                  refine gIcmpLt X6 hx (H d13_89) (pc' := 117) (by decide) (by decide) (pn := 92) rfl (fun (c89 : (2 : Int) < (3 : Int)) => ?_) (fun (c89 : (3 : Int) ≤ (2 : Int)) => ?_)
                  · refine gLoadI 119 X6 hx (H d13_117) rfl rfl ?_
                    exact gRetN X6 hx hlk hret (by simp) (H d13_119) (w := (1 : Int32)) rfl (by decide) (by decide) (just_t (by rw [← c16, txl_2, txl_2, c45, c76]) e6)
                  · exact absurd c89 (by decide)
    · refine gIconst 20 X0 hx (v := (0 : Int32)) (H d13_19) rfl rfl ?_
      exact gRetN X0 hx hlk hret (by simp) (H d13_20) (w := (0 : Int32)) rfl (by decide) (by decide) (just_f (txl_ne (Or.inr (Or.inr (Or.inl rfl))) hm c16) e0)
  · refine gStoreI 8 X0 hx (H d13_6) (l' := #[.val (.long x), .second, .val (.long y), .second, .val (.int (3 : Int32)), .unset]) rfl rfl ?_
    refine gLoadI 10 X0 hx (H d13_8) rfl rfl ?_
    refine gLoadJN 11 X0 hx (H d13_10) rfl rfl ?_
    refine gLdc2 14 X0 hx hZ hown (ow hw 4 rfl) (H d13_11) rfl ?_
    refine gLand 15 X0 hx (H d13_14) rfl ?_
    refine gL2i 16 X0 hx (H d13_15) rfl ?_
    rw [em]
    refine gIcmpEq X0 hx (H d13_16) (pc' := 21) (by decide) (by decide) (pn := 19) rfl (fun (c16 : (3 : Int32) = m') => ?_) (fun (c16 : ¬ (3 : Int32) = m') => ?_)
    · refine gIconst 22 X0 hx (v := (1 : Int32)) (H d13_21) rfl rfl ?_
      refine gStoreI 24 X0 hx (H d13_22) (l' := #[.val (.long x), .second, .val (.long y), .second, .val (.int (3 : Int32)), .val (.int (1 : Int32))]) rfl rfl ?_
      refine gLoadI 26 X0 hx (H d13_24) rfl rfl ?_
      refine gIconst 27 X0 hx (v := (1 : Int32)) (H d13_26) rfl rfl ?_
      refine gIcmpLt X0 hx (H d13_27) (pc' := 55) (by decide) (by decide) (pn := 30) rfl (fun (c27 : (3 : Int) < (1 : Int)) => ?_) (fun (c27 : (1 : Int) ≤ (3 : Int)) => ?_)
      · exact absurd c27 (by decide)
      · refine gLoadI 32 X0 hx (H d13_30) rfl rfl ?_
        refine gIfEq X0 hx (H d13_32) (pc' := 52) (by decide) (by decide) (pn := 35) rfl (fun (c32 : (1 : Int32) = (0 : Int32)) => ?_) (fun (c32 : ¬ (1 : Int32) = (0 : Int32)) => ?_)
        · exact absurd c32 (by decide)
        · refine gLoadJN 36 X0 hx (H d13_35) rfl rfl ?_
          refine gIconst 37 X0 hx (v := (0 : Int32)) (H d13_36) rfl rfl ?_
          refine gCallSJ X0 hx hZ (y := mn2) hown e0 (by rw [hml]; rfl) (ow hw 5 rfl) (ow hw 6 rfl) (ow hw 2 rfl) (ow hw 7 rfl) (by decide) (argsL := [(.long x), (.int (0 : Int32))]) (st := []) (c_ch l Z a0 hw x 0 ch0 ech0 h0) (lenOf pd_4 rfl) (H d13_37) (pc' := 40) rfl rfl rfl rfl (by decide) (W := 0) (Nat.le_of_eq rfl) (by decide) (by decide) (by decide) ?_
          intro T7 X7 e7
          refine gLoadJN 41 X7 hx (H d13_40) rfl rfl ?_
          refine gIconst 42 X7 hx (v := (0 : Int32)) (H d13_41) rfl rfl ?_
          refine gCallSJ X7 hx hZ (y := mn2) hown e7 (by rw [hml]; rfl) (ow hw 5 rfl) (ow hw 6 rfl) (ow hw 2 rfl) (ow hw 7 rfl) (by decide) (argsL := [(.long y), (.int (0 : Int32))]) (st := [(.int ch0)]) (c_ch l Z a0 hw y 0 cx0 ecx0 h0) (lenOf pd_4 rfl) (H d13_42) (pc' := 45) rfl rfl rfl rfl (by decide) (W := 1) (Nat.le_of_eq rfl) (by decide) (by decide) (by decide) ?_
          intro T8 X8 e8
          refine gIcmpNe X8 hx (H d13_45) (pc' := 52) (by decide) (by decide) (pn := 48) rfl (fun (c45 : ¬ ch0 = cx0) => ?_) (fun (c45 : ch0 = cx0) => ?_)
          · refine gIconst 53 X8 hx (v := (0 : Int32)) (H d13_52) rfl rfl ?_
            refine gStoreI 55 X8 hx (H d13_53) (l' := #[.val (.long x), .second, .val (.long y), .second, .val (.int (3 : Int32)), .val (.int (0 : Int32))]) rfl rfl ?_
            refine gLoadI 57 X8 hx (H d13_55) rfl rfl ?_
            refine gIconst 58 X8 hx (v := (2 : Int32)) (H d13_57) rfl rfl ?_
            refine gIcmpLt X8 hx (H d13_58) (pc' := 86) (by decide) (by decide) (pn := 61) rfl (fun (c58 : (3 : Int) < (2 : Int)) => ?_) (fun (c58 : (2 : Int) ≤ (3 : Int)) => ?_)
            · exact absurd c58 (by decide)
            · refine gLoadI 63 X8 hx (H d13_61) rfl rfl ?_
              refine gIfEq X8 hx (H d13_63) (pc' := 83) (by decide) (by decide) (pn := 66) rfl (fun (c63 : (0 : Int32) = (0 : Int32)) => ?_) (fun (c63 : ¬ (0 : Int32) = (0 : Int32)) => ?_)
              · refine gIconst 84 X8 hx (v := (0 : Int32)) (H d13_83) rfl rfl ?_
                refine gStoreI 86 X8 hx (H d13_84) (l' := #[.val (.long x), .second, .val (.long y), .second, .val (.int (3 : Int32)), .val (.int (0 : Int32))]) rfl rfl ?_
                refine gLoadI 88 X8 hx (H d13_86) rfl rfl ?_
                refine gIconst 89 X8 hx (v := (3 : Int32)) (H d13_88) rfl rfl ?_
                refine gIcmpLt X8 hx (H d13_89) (pc' := 117) (by decide) (by decide) (pn := 92) rfl (fun (c89 : (3 : Int) < (3 : Int)) => ?_) (fun (c89 : (3 : Int) ≤ (3 : Int)) => ?_)
                · exact absurd c89 (by decide)
                · refine gLoadI 94 X8 hx (H d13_92) rfl rfl ?_
                  refine gIfEq X8 hx (H d13_94) (pc' := 114) (by decide) (by decide) (pn := 97) rfl (fun (c94 : (0 : Int32) = (0 : Int32)) => ?_) (fun (c94 : ¬ (0 : Int32) = (0 : Int32)) => ?_)
                  · refine gIconst 115 X8 hx (v := (0 : Int32)) (H d13_114) rfl rfl ?_
                    refine gStoreI 117 X8 hx (H d13_115) (l' := #[.val (.long x), .second, .val (.long y), .second, .val (.int (3 : Int32)), .val (.int (0 : Int32))]) rfl rfl ?_
                    refine gLoadI 119 X8 hx (H d13_117) rfl rfl ?_
                    exact gRetN X8 hx hlk hret (by simp) (H d13_119) (w := (0 : Int32)) rfl (by decide) (by decide) (just_f (by intro q; rw [← c16, txl_3, txl_3] at q; cases q; exact absurd rfl c45) e8)
                  · exact absurd c94 (by decide)
              · exact absurd c63 (by decide)
          · refine gIconst 49 X8 hx (v := (1 : Int32)) (H d13_48) rfl rfl ?_
            refine gGoto X8 hx (H d13_49) (pc' := 53) (by decide) (by decide) ?_
            refine gStoreI 55 X8 hx (H d13_53) (l' := #[.val (.long x), .second, .val (.long y), .second, .val (.int (3 : Int32)), .val (.int (1 : Int32))]) rfl rfl ?_
            refine gLoadI 57 X8 hx (H d13_55) rfl rfl ?_
            refine gIconst 58 X8 hx (v := (2 : Int32)) (H d13_57) rfl rfl ?_
            refine gIcmpLt X8 hx (H d13_58) (pc' := 86) (by decide) (by decide) (pn := 61) rfl (fun (c58 : (3 : Int) < (2 : Int)) => ?_) (fun (c58 : (2 : Int) ≤ (3 : Int)) => ?_)
            · exact absurd c58 (by decide)
            · refine gLoadI 63 X8 hx (H d13_61) rfl rfl ?_
              refine gIfEq X8 hx (H d13_63) (pc' := 83) (by decide) (by decide) (pn := 66) rfl (fun (c63 : (1 : Int32) = (0 : Int32)) => ?_) (fun (c63 : ¬ (1 : Int32) = (0 : Int32)) => ?_)
              · exact absurd c63 (by decide)
              · refine gLoadJN 67 X8 hx (H d13_66) rfl rfl ?_
                refine gIconst 68 X8 hx (v := (1 : Int32)) (H d13_67) rfl rfl ?_
                refine gCallSJ X8 hx hZ (y := mn2) hown e8 (by rw [hml]; rfl) (ow hw 5 rfl) (ow hw 6 rfl) (ow hw 2 rfl) (ow hw 7 rfl) (by decide) (argsL := [(.long x), (.int (1 : Int32))]) (st := []) (c_ch l Z a0 hw x 1 ch1 ech1 h0) (lenOf pd_4 rfl) (H d13_68) (pc' := 71) rfl rfl rfl rfl (by decide) (W := 0) (Nat.le_of_eq rfl) (by decide) (by decide) (by decide) ?_
                intro T9 X9 e9
                refine gLoadJN 72 X9 hx (H d13_71) rfl rfl ?_
                refine gIconst 73 X9 hx (v := (1 : Int32)) (H d13_72) rfl rfl ?_
                refine gCallSJ X9 hx hZ (y := mn2) hown e9 (by rw [hml]; rfl) (ow hw 5 rfl) (ow hw 6 rfl) (ow hw 2 rfl) (ow hw 7 rfl) (by decide) (argsL := [(.long y), (.int (1 : Int32))]) (st := [(.int ch1)]) (c_ch l Z a0 hw y 1 cx1 ecx1 h0) (lenOf pd_4 rfl) (H d13_73) (pc' := 76) rfl rfl rfl rfl (by decide) (W := 1) (Nat.le_of_eq rfl) (by decide) (by decide) (by decide) ?_
                intro T10 X10 e10
                refine gIcmpNe X10 hx (H d13_76) (pc' := 83) (by decide) (by decide) (pn := 79) rfl (fun (c76 : ¬ ch1 = cx1) => ?_) (fun (c76 : ch1 = cx1) => ?_)
                · refine gIconst 84 X10 hx (v := (0 : Int32)) (H d13_83) rfl rfl ?_
                  refine gStoreI 86 X10 hx (H d13_84) (l' := #[.val (.long x), .second, .val (.long y), .second, .val (.int (3 : Int32)), .val (.int (0 : Int32))]) rfl rfl ?_
                  refine gLoadI 88 X10 hx (H d13_86) rfl rfl ?_
                  refine gIconst 89 X10 hx (v := (3 : Int32)) (H d13_88) rfl rfl ?_
                  refine gIcmpLt X10 hx (H d13_89) (pc' := 117) (by decide) (by decide) (pn := 92) rfl (fun (c89 : (3 : Int) < (3 : Int)) => ?_) (fun (c89 : (3 : Int) ≤ (3 : Int)) => ?_)
                  · exact absurd c89 (by decide)
                  · refine gLoadI 94 X10 hx (H d13_92) rfl rfl ?_
                    refine gIfEq X10 hx (H d13_94) (pc' := 114) (by decide) (by decide) (pn := 97) rfl (fun (c94 : (0 : Int32) = (0 : Int32)) => ?_) (fun (c94 : ¬ (0 : Int32) = (0 : Int32)) => ?_)
                    · refine gIconst 115 X10 hx (v := (0 : Int32)) (H d13_114) rfl rfl ?_
                      refine gStoreI 117 X10 hx (H d13_115) (l' := #[.val (.long x), .second, .val (.long y), .second, .val (.int (3 : Int32)), .val (.int (0 : Int32))]) rfl rfl ?_
                      refine gLoadI 119 X10 hx (H d13_117) rfl rfl ?_
                      exact gRetN X10 hx hlk hret (by simp) (H d13_119) (w := (0 : Int32)) rfl (by decide) (by decide) (just_f (by intro q; rw [← c16, txl_3, txl_3] at q; cases q; exact absurd rfl c76) e10)
                    · exact absurd c94 (by decide)
                · refine gIconst 80 X10 hx (v := (1 : Int32)) (H d13_79) rfl rfl ?_
                  refine gGoto X10 hx (H d13_80) (pc' := 84) (by decide) (by decide) ?_
                  refine gStoreI 86 X10 hx (H d13_84) (l' := #[.val (.long x), .second, .val (.long y), .second, .val (.int (3 : Int32)), .val (.int (1 : Int32))]) rfl rfl ?_
                  refine gLoadI 88 X10 hx (H d13_86) rfl rfl ?_
                  refine gIconst 89 X10 hx (v := (3 : Int32)) (H d13_88) rfl rfl ?_
                  refine gIcmpLt X10 hx (H d13_89) (pc' := 117) (by decide) (by decide) (pn := 92) rfl (fun (c89 : (3 : Int) < (3 : Int)) => ?_) (fun (c89 : (3 : Int) ≤ (3 : Int)) => ?_)
                  · exact absurd c89 (by decide)
                  · refine gLoadI 94 X10 hx (H d13_92) rfl rfl ?_
                    refine gIfEq X10 hx (H d13_94) (pc' := 114) (by decide) (by decide) (pn := 97) rfl (fun (c94 : (1 : Int32) = (0 : Int32)) => ?_) (fun (c94 : ¬ (1 : Int32) = (0 : Int32)) => ?_)
                    · exact absurd c94 (by decide)
                    · refine gLoadJN 98 X10 hx (H d13_97) rfl rfl ?_
                      refine gIconst 99 X10 hx (v := (2 : Int32)) (H d13_98) rfl rfl ?_
                      refine gCallSJ X10 hx hZ (y := mn2) hown e10 (by rw [hml]; rfl) (ow hw 5 rfl) (ow hw 6 rfl) (ow hw 2 rfl) (ow hw 7 rfl) (by decide) (argsL := [(.long x), (.int (2 : Int32))]) (st := []) (c_ch l Z a0 hw x 2 ch2 ech2 h0) (lenOf pd_4 rfl) (H d13_99) (pc' := 102) rfl rfl rfl rfl (by decide) (W := 0) (Nat.le_of_eq rfl) (by decide) (by decide) (by decide) ?_
                      intro T11 X11 e11
                      refine gLoadJN 103 X11 hx (H d13_102) rfl rfl ?_
                      refine gIconst 104 X11 hx (v := (2 : Int32)) (H d13_103) rfl rfl ?_
                      refine gCallSJ X11 hx hZ (y := mn2) hown e11 (by rw [hml]; rfl) (ow hw 5 rfl) (ow hw 6 rfl) (ow hw 2 rfl) (ow hw 7 rfl) (by decide) (argsL := [(.long y), (.int (2 : Int32))]) (st := [(.int ch2)]) (c_ch l Z a0 hw y 2 cx2 ecx2 h0) (lenOf pd_4 rfl) (H d13_104) (pc' := 107) rfl rfl rfl rfl (by decide) (W := 1) (Nat.le_of_eq rfl) (by decide) (by decide) (by decide) ?_
                      intro T12 X12 e12
                      refine gIcmpNe X12 hx (H d13_107) (pc' := 114) (by decide) (by decide) (pn := 110) rfl (fun (c107 : ¬ ch2 = cx2) => ?_) (fun (c107 : ch2 = cx2) => ?_)
                      · refine gIconst 115 X12 hx (v := (0 : Int32)) (H d13_114) rfl rfl ?_
                        refine gStoreI 117 X12 hx (H d13_115) (l' := #[.val (.long x), .second, .val (.long y), .second, .val (.int (3 : Int32)), .val (.int (0 : Int32))]) rfl rfl ?_
                        refine gLoadI 119 X12 hx (H d13_117) rfl rfl ?_
                        exact gRetN X12 hx hlk hret (by simp) (H d13_119) (w := (0 : Int32)) rfl (by decide) (by decide) (just_f (by intro q; rw [← c16, txl_3, txl_3] at q; cases q; exact absurd rfl c107) e12)
                      · refine gIconst 111 X12 hx (v := (1 : Int32)) (H d13_110) rfl rfl ?_
                        refine gGoto X12 hx (H d13_111) (pc' := 115) (by decide) (by decide) ?_
                        refine gStoreI 117 X12 hx (H d13_115) (l' := #[.val (.long x), .second, .val (.long y), .second, .val (.int (3 : Int32)), .val (.int (1 : Int32))]) rfl rfl ?_
                        refine gLoadI 119 X12 hx (H d13_117) rfl rfl ?_
                        exact gRetN X12 hx hlk hret (by simp) (H d13_119) (w := (1 : Int32)) rfl (by decide) (by decide) (just_t (by rw [← c16, txl_3, txl_3, c45, c76, c107]) e12)
    · refine gIconst 20 X0 hx (v := (0 : Int32)) (H d13_19) rfl rfl ?_
      exact gRetN X0 hx hlk hret (by simp) (H d13_20) (w := (0 : Int32)) rfl (by decide) (by decide) (just_f (txl_ne (Or.inr (Or.inr (Or.inr (rfl)))) hm c16) e0)
theorem pd_3 : parseMethodDescriptor "(J)Ljava/lang/String;" = some ⟨[.long], some (.object "java/lang/String")⟩ := by decide +kernel
theorem pd_1 : parseMethodDescriptor "(I)Lcom/example/strict_chain/strictchain/Finding$Kind;" = some ⟨[.int], some (.object "com/example/strict_chain/strictchain/Finding$Kind")⟩ := by decide +kernel
theorem pd_2 : parseMethodDescriptor "(I)Lcom/example/strict_chain/strictchain/Finding$Subject;" = some ⟨[.int], some (.object "com/example/strict_chain/strictchain/Finding$Subject")⟩ := by decide +kernel
theorem pd_6 : parseMethodDescriptor "(Lcom/example/strict_chain/strictchain/Finding$Kind;Lcom/example/strict_chain/strictchain/Finding$Subject;Ljava/lang/String;Ljava/lang/String;)V" = some ⟨[(.object "com/example/strict_chain/strictchain/Finding$Kind"), (.object "com/example/strict_chain/strictchain/Finding$Subject"), (.object "java/lang/String"), (.object "java/lang/String")], none⟩ := by decide +kernel
theorem pd_5 : parseMethodDescriptor "(JJ)Z" = some ⟨[.long, .long], some .boolean⟩ := by decide +kernel
theorem c_law (l : Launch) (Z : State) (a0 : Array Value) (hw : ∀ d ∈ tables_1, d.before a0 Z = true) (p0 : Int32) (p1 p2 p3 p4 : Int64) (a_INVALID a_FILTER a_SUSPICIOUS a_NOT_PORTABLE a_ERROR_PAGE a_SERVLET_MAPPING a_WELCOME_FILE a_SERVLET : Addr) (h0 : Heap) (hEL : EW Z a0 [("com/example/strict_chain/strictchain/Finding", 7), ("com/example/strict_chain/strictchain/Finding", 22), ("com/example/strict_chain/strictchain/Finding", 29), ("com/example/strict_chain/strictchain/Finding", 36), ("java/lang/String", 7)]) (hCpt : Cpt Z h0) (hK : Known Z h0 a_INVALID a_FILTER a_SUSPICIOUS a_NOT_PORTABLE a_ERROR_PAGE a_SERVLET_MAPPING a_WELCOME_FILE a_SERVLET) :
    CtrH l Z [("com/example/strict_chain/strictchain/Finding", 7), ("com/example/strict_chain/strictchain/Finding", 22), ("com/example/strict_chain/strictchain/Finding", 29), ("com/example/strict_chain/strictchain/Finding", 36), ("java/lang/String", 7)] [] x code maxLocals ret tables_1 room_1 #[(.int p0), (.long p1), (.long p2), (.long p3), (.long p4)] h0 (Law1 h0) := by
  refine CtrH.of (plainFor_of_name pn_1) ?_
  intro p e s m below meth c s₁ hx H hml hret hown hnm hZ hlk X0 e0 hS H0 hSafe
  replace hml : c.maxLocals = 25 := hml
  refine Goes.cast (show entryFrame m _ _ = mkF m 0 #[.val (.int p0), .val (.long p1), .second, .val (.long p2), .second, .val (.long p3), .second, .val (.long p4), .second, .unset, .unset, .unset, .unset, .unset, .unset, .unset, .unset, .unset, .unset, .unset, .unset, .unset, .unset, .unset, .unset] [] from by simp [entryFrame, mkF, argsToLocals, Value.category]; rfl) ?_
  obtain ⟨S_INVALID, S_FILTER, S_SUSPICIOUS, S_NOT_PORTABLE, S_ERROR_PAGE, S_SERVLET_MAPPING, S_WELCOME_FILE, S_SERVLET, E_INVALID, E_FILTER, E_SUSPICIOUS, E_NOT_PORTABLE, E_ERROR_PAGE, E_SERVLET_MAPPING, E_WELCOME_FILE, E_SERVLET, F_INVALID_ordinal, F_SUSPICIOUS_ordinal, F_NOT_PORTABLE_ordinal, F_WELCOME_FILE_ordinal, F_SERVLET_ordinal, F_FILTER_ordinal, F_SERVLET_MAPPING_ordinal, F_ERROR_PAGE_ordinal⟩ := hK
  have dk01 := (Fld.ne F_INVALID_ordinal F_NOT_PORTABLE_ordinal (by decide))
  have dk02 := (Fld.ne F_INVALID_ordinal F_SUSPICIOUS_ordinal (by decide))
  have dk12 := (Fld.ne F_NOT_PORTABLE_ordinal F_SUSPICIOUS_ordinal (by decide))
  have du01 := (Fld.ne F_FILTER_ordinal F_SERVLET_ordinal (by decide))
  have du02 := (Fld.ne F_FILTER_ordinal F_SERVLET_MAPPING_ordinal (by decide))
  have du03 := (Fld.ne F_FILTER_ordinal F_ERROR_PAGE_ordinal (by decide))
  have du04 := (Fld.ne F_FILTER_ordinal F_WELCOME_FILE_ordinal (by decide))
  have du12 := (Fld.ne F_SERVLET_ordinal F_SERVLET_MAPPING_ordinal (by decide))
  have du13 := (Fld.ne F_SERVLET_ordinal F_ERROR_PAGE_ordinal (by decide))
  have du14 := (Fld.ne F_SERVLET_ordinal F_WELCOME_FILE_ordinal (by decide))
  have du23 := (Fld.ne F_SERVLET_MAPPING_ordinal F_ERROR_PAGE_ordinal (by decide))
  have du24 := (Fld.ne F_SERVLET_MAPPING_ordinal F_WELCOME_FILE_ordinal (by decide))
  have du34 := (Fld.ne F_ERROR_PAGE_ordinal F_WELCOME_FILE_ordinal (by decide))
  refine gLoadIN 1 X0 hx (H at_0) rfl rfl ?_
  refine gIconst 2 X0 hx (v := (3 : Int32)) (H at_1) rfl rfl ?_
  refine gIand 3 X0 hx (H at_2) rfl ?_
  refine gIconst 4 X0 hx (v := (3 : Int32)) (H at_3) rfl rfl ?_
  refine gIrem 5 X0 hx (H at_4) (by decide) rfl ?_
  generalize hg_k1 : ((p0 &&& (3 : Int32)) % (3 : Int32)) = k1
  have hk1 : (k1 = 0 ∨ k1 = 1 ∨ k1 = 2) := hg_k1 ▸ own_r3 _
  refine gStoreI 7 X0 hx (H at_5) (l' := #[.val (.int p0), .val (.long p1), .second, .val (.long p2), .second, .val (.long p3), .second, .val (.long p4), .second, .val (.int k1), .unset, .unset, .unset, .unset, .unset, .unset, .unset, .unset, .unset, .unset, .unset, .unset, .unset, .unset, .unset]) rfl rfl ?_
  refine gLoadIN 8 X0 hx (H at_7) rfl rfl ?_
  refine gBipush 10 X0 hx (v := (14 : Int32)) (H at_8) rfl rfl ?_
  refine gIushr 11 X0 hx (H at_10) rfl ?_
  refine gIconst 12 X0 hx (v := (1 : Int32)) (H at_11) rfl rfl ?_
  refine gIand 13 X0 hx (H at_12) rfl ?_
  have J28 : ∀ k2 : Int32, (k2 = 0 ∨ k2 = 1 ∨ k2 = 2) → Goes p e below (FinH Z [("com/example/strict_chain/strictchain/Finding", 7), ("com/example/strict_chain/strictchain/Finding", 22), ("com/example/strict_chain/strictchain/Finding", 29), ("com/example/strict_chain/strictchain/Finding", 36), ("java/lang/String", 7)] s room_1.cells room_1.slots (Law1 h0)) s₁ (mkF m 28 #[.val (.int p0), .val (.long p1), .second, .val (.long p2), .second, .val (.long p3), .second, .val (.long p4), .second, .val (.int k1), .unset, .unset, .unset, .unset, .unset, .unset, .unset, .unset, .unset, .unset, .unset, .unset, .unset, .unset, .unset] [(.int k2)]) := by
    intro k2 hk2
    refine gStoreI 30 X0 hx (H at_28) (l' := #[.val (.int p0), .val (.long p1), .second, .val (.long p2), .second, .val (.long p3), .second, .val (.long p4), .second, .val (.int k1), .val (.int k2), .unset, .unset, .unset, .unset, .unset, .unset, .unset, .unset, .unset, .unset, .unset, .unset, .unset, .unset]) rfl rfl ?_
    refine gLoadIN 31 X0 hx (H at_30) rfl rfl ?_
    refine gIconst 32 X0 hx (v := (4 : Int32)) (H at_31) rfl rfl ?_
    refine gIushr 33 X0 hx (H at_32) rfl ?_
    refine gBipush 35 X0 hx (v := (7 : Int32)) (H at_33) rfl rfl ?_
    refine gIand 36 X0 hx (H at_35) rfl ?_
    refine gIconst 37 X0 hx (v := (5 : Int32)) (H at_36) rfl rfl ?_
    refine gIrem 38 X0 hx (H at_37) (by decide) rfl ?_
    generalize hg_s1 : ((((p0.toUInt32 >>> ((4 : Int32) &&& 31).toUInt32).toInt32) &&& (7 : Int32)) % (5 : Int32)) = s1
    have hs1 : (s1 = 0 ∨ s1 = 1 ∨ s1 = 2 ∨ s1 = 3 ∨ s1 = 4) := hg_s1 ▸ own_r5 _
    refine gStoreI 40 X0 hx (H at_38) (l' := #[.val (.int p0), .val (.long p1), .second, .val (.long p2), .second, .val (.long p3), .second, .val (.long p4), .second, .val (.int k1), .val (.int k2), .val (.int s1), .unset, .unset, .unset, .unset, .unset, .unset, .unset, .unset, .unset, .unset, .unset, .unset, .unset]) rfl rfl ?_
    refine gLoadIN 41 X0 hx (H at_40) rfl rfl ?_
    refine gBipush 43 X0 hx (v := (15 : Int32)) (H at_41) rfl rfl ?_
    refine gIushr 44 X0 hx (H at_43) rfl ?_
    refine gIconst 45 X0 hx (v := (1 : Int32)) (H at_44) rfl rfl ?_
    refine gIand 46 X0 hx (H at_45) rfl ?_
    have J63 : ∀ s2 : Int32, (s2 = 0 ∨ s2 = 1 ∨ s2 = 2 ∨ s2 = 3 ∨ s2 = 4) → Goes p e below (FinH Z [("com/example/strict_chain/strictchain/Finding", 7), ("com/example/strict_chain/strictchain/Finding", 22), ("com/example/strict_chain/strictchain/Finding", 29), ("com/example/strict_chain/strictchain/Finding", 36), ("java/lang/String", 7)] s room_1.cells room_1.slots (Law1 h0)) s₁ (mkF m 63 #[.val (.int p0), .val (.long p1), .second, .val (.long p2), .second, .val (.long p3), .second, .val (.long p4), .second, .val (.int k1), .val (.int k2), .val (.int s1), .unset, .unset, .unset, .unset, .unset, .unset, .unset, .unset, .unset, .unset, .unset, .unset, .unset] [(.int s2)]) := by
      intro s2 hs2
      refine gStoreI 65 X0 hx (H at_63) (l' := #[.val (.int p0), .val (.long p1), .second, .val (.long p2), .second, .val (.long p3), .second, .val (.long p4), .second, .val (.int k1), .val (.int k2), .val (.int s1), .val (.int s2), .unset, .unset, .unset, .unset, .unset, .unset, .unset, .unset, .unset, .unset, .unset, .unset]) rfl rfl ?_
      refine gLoadIN 66 X0 hx (H at_65) rfl rfl ?_
      refine gBipush 68 X0 hx (v := (12 : Int32)) (H at_66) rfl rfl ?_
      refine gIushr 69 X0 hx (H at_68) rfl ?_
      refine gIconst 70 X0 hx (v := (1 : Int32)) (H at_69) rfl rfl ?_
      refine gIand 71 X0 hx (H at_70) rfl ?_
      have J79 : ∀ w2 : Int64, Goes p e below (FinH Z [("com/example/strict_chain/strictchain/Finding", 7), ("com/example/strict_chain/strictchain/Finding", 22), ("com/example/strict_chain/strictchain/Finding", 29), ("com/example/strict_chain/strictchain/Finding", 36), ("java/lang/String", 7)] s room_1.cells room_1.slots (Law1 h0)) s₁ (mkF m 79 #[.val (.int p0), .val (.long p1), .second, .val (.long p2), .second, .val (.long p3), .second, .val (.long p4), .second, .val (.int k1), .val (.int k2), .val (.int s1), .val (.int s2), .unset, .unset, .unset, .unset, .unset, .unset, .unset, .unset, .unset, .unset, .unset, .unset] [(.long w2)]) := by
        intro w2
        refine gStoreJ 81 X0 hx (H at_79) (l' := #[.val (.int p0), .val (.long p1), .second, .val (.long p2), .second, .val (.long p3), .second, .val (.long p4), .second, .val (.int k1), .val (.int k2), .val (.int s1), .val (.int s2), .val (.long w2), .second, .unset, .unset, .unset, .unset, .unset, .unset, .unset, .unset, .unset, .unset]) rfl rfl ?_
        refine gLoadIN 82 X0 hx (H at_81) rfl rfl ?_
        refine gBipush 84 X0 hx (v := (13 : Int32)) (H at_82) rfl rfl ?_
        refine gIushr 85 X0 hx (H at_84) rfl ?_
        refine gIconst 86 X0 hx (v := (1 : Int32)) (H at_85) rfl rfl ?_
        refine gIand 87 X0 hx (H at_86) rfl ?_
        have J97 : ∀ x2 : Int64, Goes p e below (FinH Z [("com/example/strict_chain/strictchain/Finding", 7), ("com/example/strict_chain/strictchain/Finding", 22), ("com/example/strict_chain/strictchain/Finding", 29), ("com/example/strict_chain/strictchain/Finding", 36), ("java/lang/String", 7)] s room_1.cells room_1.slots (Law1 h0)) s₁ (mkF m 97 #[.val (.int p0), .val (.long p1), .second, .val (.long p2), .second, .val (.long p3), .second, .val (.long p4), .second, .val (.int k1), .val (.int k2), .val (.int s1), .val (.int s2), .val (.long w2), .second, .unset, .unset, .unset, .unset, .unset, .unset, .unset, .unset, .unset, .unset] [(.long x2)]) := by
          intro x2
          refine gStoreJ 99 X0 hx (H at_97) (l' := #[.val (.int p0), .val (.long p1), .second, .val (.long p2), .second, .val (.long p3), .second, .val (.long p4), .second, .val (.int k1), .val (.int k2), .val (.int s1), .val (.int s2), .val (.long w2), .second, .val (.long x2), .second, .unset, .unset, .unset, .unset, .unset, .unset, .unset, .unset]) rfl rfl ?_
          refine gLoadIN 100 X0 hx (H at_99) rfl rfl ?_
          refine gBipush 102 X0 hx (v := (10 : Int32)) (H at_100) rfl rfl ?_
          refine gIushr 103 X0 hx (H at_102) rfl ?_
          refine gIconst 104 X0 hx (v := (3 : Int32)) (H at_103) rfl rfl ?_
          refine gIand 105 X0 hx (H at_104) rfl ?_
          generalize hg_md : (((p0.toUInt32 >>> ((10 : Int32) &&& 31).toUInt32).toInt32) &&& (3 : Int32)) = md
          refine gStoreI 107 X0 hx (H at_105) (l' := #[.val (.int p0), .val (.long p1), .second, .val (.long p2), .second, .val (.long p3), .second, .val (.long p4), .second, .val (.int k1), .val (.int k2), .val (.int s1), .val (.int s2), .val (.long w2), .second, .val (.long x2), .second, .val (.int md), .unset, .unset, .unset, .unset, .unset, .unset, .unset]) rfl rfl ?_
          obtain ⟨K1, qK1, EK1⟩ : ∃ z, z = kd k1 a_INVALID a_NOT_PORTABLE a_SUSPICIOUS ∧ Exa Z h0 z "com/example/strict_chain/strictchain/Finding$Kind" := ⟨_, rfl, kd_exa k1 E_INVALID E_NOT_PORTABLE E_SUSPICIOUS⟩
          obtain ⟨U1, qU1, EU1⟩ : ∃ z, z = sd s1 a_FILTER a_SERVLET a_SERVLET_MAPPING a_ERROR_PAGE a_WELCOME_FILE ∧ Exa Z h0 z "com/example/strict_chain/strictchain/Finding$Subject" := ⟨_, rfl, sd_exa s1 E_FILTER E_SERVLET E_SERVLET_MAPPING E_ERROR_PAGE E_WELCOME_FILE⟩
          obtain ⟨K2, qK2, EK2⟩ : ∃ z, z = kd k2 a_INVALID a_NOT_PORTABLE a_SUSPICIOUS ∧ Exa Z h0 z "com/example/strict_chain/strictchain/Finding$Kind" := ⟨_, rfl, kd_exa k2 E_INVALID E_NOT_PORTABLE E_SUSPICIOUS⟩
          obtain ⟨U2, qU2, EU2⟩ : ∃ z, z = sd s2 a_FILTER a_SERVLET a_SERVLET_MAPPING a_ERROR_PAGE a_WELCOME_FILE ∧ Exa Z h0 z "com/example/strict_chain/strictchain/Finding$Subject" := ⟨_, rfl, sd_exa s2 E_FILTER E_SERVLET E_SERVLET_MAPPING E_ERROR_PAGE E_WELCOME_FILE⟩
          refine gLoadJN 108 X0 hx (H at_107) rfl rfl ?_
          refine gCallSH X0 hx hZ (y := mn7) hown e0 (by rw [hml]; rfl) hS (Nat.zero_le _) hEL H0 (ow hw 0 rfl) (ow hw 1 rfl) (ow hw 2 rfl) (ow hw 3 rfl) (by decide) sl0 (argsL := [(.long p1)]) (st := []) (c_text l Z a0 hw p1 h0 hEL hCpt) (lenOf pd_3 rfl) (H at_108) (pc' := 111) rfl rfl (by decide) (W := 0) (Nat.le_of_eq rfl) (by decide) (by decide) (by decide) ?_
          intro T1 v1 L1 X1 hS hZ hown C1 H1 hQ1
          obtain ⟨r1, rfl, gr1, Nq1, Kq1, t1, ct1, Eq1, Cq1, Vq1, Aq1⟩ := hQ1
          have N1 := Fr.app (Fr.nil h0.size) (fun y hy => Nat.le_trans (Nat.le_refl _) (Nq1 y hy))
          have f1_0 := own_cpt_keep hCpt Kq1 ns0
          have f1_1 := own_sta_keep S_INVALID Kq1 ns0
          have f1_2 := own_sta_keep S_NOT_PORTABLE Kq1 ns0
          have f1_3 := own_sta_keep S_SUSPICIOUS Kq1 ns0
          have f1_4 := own_sta_keep S_FILTER Kq1 ns0
          have f1_5 := own_sta_keep S_SERVLET Kq1 ns0
          have f1_6 := own_sta_keep S_SERVLET_MAPPING Kq1 ns0
          have f1_7 := own_sta_keep S_ERROR_PAGE Kq1 ns0
          have f1_8 := own_sta_keep S_WELCOME_FILE Kq1 ns0
          have f1_9 := EK1.keep Kq1
          have f1_10 := EU1.keep Kq1
          have f1_11 := EK2.keep Kq1
          have f1_12 := EU2.keep Kq1
          have zs1 := Nat.le_trans (Nat.le_refl _) Kq1.1
          refine gStoreA 113 X1 hx (H at_111) (l' := #[.val (.int p0), .val (.long p1), .second, .val (.long p2), .second, .val (.long p3), .second, .val (.long p4), .second, .val (.int k1), .val (.int k2), .val (.int s1), .val (.int s2), .val (.long w2), .second, .val (.long x2), .second, .val (.int md), .val (.ref r1), .unset, .unset, .unset, .unset, .unset, .unset]) rfl rfl rfl ?_
          refine gLoadJ 115 X1 hx (H at_113) rfl rfl ?_
          refine gCallSH X1 hx hZ (y := mn7) hown rfl (by rw [hml]; rfl) hS (Nat.le_refl _) hEL H1 (ow hw 0 rfl) (ow hw 1 rfl) (ow hw 2 rfl) (ow hw 3 rfl) (by decide) sl0 (argsL := [(.long p3)]) (st := []) (c_text l Z a0 hw p3 T1.heap hEL f1_0) (lenOf pd_3 rfl) (H at_115) (pc' := 118) rfl rfl (by decide) (W := 0) (Nat.le_of_eq rfl) (by decide) (by decide) (by decide) ?_
          intro T2 v2 L2 X2 hS hZ hown C2 H2 hQ2
          obtain ⟨r2, rfl, gr2, Nq2, Kq2, t2, ct2, Eq2, Cq2, Vq2, Aq2⟩ := hQ2
          have nr_r1_2 : r1 ≠ r2 := Nat.ne_of_lt (Nat.lt_of_lt_of_le Eq1.lt gr2)
          have N2 := Fr.app N1 (fun y hy => Nat.le_trans zs1 (Nq2 y hy))
          have f2_0 := own_cpt_keep f1_0 Kq2 ns0
          have f2_1 := own_sta_keep f1_1 Kq2 ns0
          have f2_2 := own_sta_keep f1_2 Kq2 ns0
          have f2_3 := own_sta_keep f1_3 Kq2 ns0
          have f2_4 := own_sta_keep f1_4 Kq2 ns0
          have f2_5 := own_sta_keep f1_5 Kq2 ns0
          have f2_6 := own_sta_keep f1_6 Kq2 ns0
          have f2_7 := own_sta_keep f1_7 Kq2 ns0
          have f2_8 := own_sta_keep f1_8 Kq2 ns0
          have f2_9 := f1_9.keep Kq2
          have f2_10 := f1_10.keep Kq2
          have f2_11 := f1_11.keep Kq2
          have f2_12 := f1_12.keep Kq2
          have f2_13 := Eq1.keep Kq2
          have f2_14 := Cq1.keep Kq2 nin0
          have f2_15 := Vq1.keep Kq2 nin0
          have f2_16 := Aq1.keep Kq2 nin0
          have zs2 := Nat.le_trans zs1 Kq2.1
          refine gStoreA 120 X2 hx (H at_118) (l' := #[.val (.int p0), .val (.long p1), .second, .val (.long p2), .second, .val (.long p3), .second, .val (.long p4), .second, .val (.int k1), .val (.int k2), .val (.int s1), .val (.int s2), .val (.long w2), .second, .val (.long x2), .second, .val (.int md), .val (.ref r1), .val (.ref r2), .unset, .unset, .unset, .unset, .unset]) rfl rfl rfl ?_
          refine gLoadJ 122 X2 hx (H at_120) rfl rfl ?_
          refine gCallSH X2 hx hZ (y := mn7) hown rfl (by rw [hml]; rfl) hS (Nat.le_refl _) hEL H2 (ow hw 0 rfl) (ow hw 1 rfl) (ow hw 2 rfl) (ow hw 3 rfl) (by decide) sl0 (argsL := [(.long w2)]) (st := []) (c_text l Z a0 hw w2 T2.heap hEL f2_0) (lenOf pd_3 rfl) (H at_122) (pc' := 125) rfl rfl (by decide) (W := 0) (Nat.le_of_eq rfl) (by decide) (by decide) (by decide) ?_
          intro T3 v3 L3 X3 hS hZ hown C3 H3 hQ3
          obtain ⟨r3, rfl, gr3, Nq3, Kq3, t3, ct3, Eq3, Cq3, Vq3, Aq3⟩ := hQ3
          have nr_r1_3 : r1 ≠ r3 := Nat.ne_of_lt (Nat.lt_of_lt_of_le f2_13.lt gr3)
          have nr_r2_3 : r2 ≠ r3 := Nat.ne_of_lt (Nat.lt_of_lt_of_le Eq2.lt gr3)
          have N3 := Fr.app N2 (fun y hy => Nat.le_trans zs2 (Nq3 y hy))
          have f3_0 := own_cpt_keep f2_0 Kq3 ns0
          have f3_1 := own_sta_keep f2_1 Kq3 ns0
          have f3_2 := own_sta_keep f2_2 Kq3 ns0
          have f3_3 := own_sta_keep f2_3 Kq3 ns0
          have f3_4 := own_sta_keep f2_4 Kq3 ns0
          have f3_5 := own_sta_keep f2_5 Kq3 ns0
          have f3_6 := own_sta_keep f2_6 Kq3 ns0
          have f3_7 := own_sta_keep f2_7 Kq3 ns0
          have f3_8 := own_sta_keep f2_8 Kq3 ns0
          have f3_9 := f2_9.keep Kq3
          have f3_10 := f2_10.keep Kq3
          have f3_11 := f2_11.keep Kq3
          have f3_12 := f2_12.keep Kq3
          have f3_13 := f2_13.keep Kq3
          have f3_14 := f2_14.keep Kq3 nin0
          have f3_15 := f2_15.keep Kq3 nin0
          have f3_16 := f2_16.keep Kq3 nin0
          have f3_17 := Eq2.keep Kq3
          have f3_18 := Cq2.keep Kq3 nin0
          have f3_19 := Vq2.keep Kq3 nin0
          have f3_20 := Aq2.keep Kq3 nin0
          have zs3 := Nat.le_trans zs2 Kq3.1
          refine gStoreA 127 X3 hx (H at_125) (l' := #[.val (.int p0), .val (.long p1), .second, .val (.long p2), .second, .val (.long p3), .second, .val (.long p4), .second, .val (.int k1), .val (.int k2), .val (.int s1), .val (.int s2), .val (.long w2), .second, .val (.long x2), .second, .val (.int md), .val (.ref r1), .val (.ref r2), .val (.ref r3), .unset, .unset, .unset, .unset]) rfl rfl rfl ?_
          refine gLoadJ 129 X3 hx (H at_127) rfl rfl ?_
          refine gCallSH X3 hx hZ (y := mn7) hown rfl (by rw [hml]; rfl) hS (Nat.le_refl _) hEL H3 (ow hw 0 rfl) (ow hw 1 rfl) (ow hw 2 rfl) (ow hw 3 rfl) (by decide) sl0 (argsL := [(.long x2)]) (st := []) (c_text l Z a0 hw x2 T3.heap hEL f3_0) (lenOf pd_3 rfl) (H at_129) (pc' := 132) rfl rfl (by decide) (W := 0) (Nat.le_of_eq rfl) (by decide) (by decide) (by decide) ?_
          intro T4 v4 L4 X4 hS hZ hown C4 H4 hQ4
          obtain ⟨r4, rfl, gr4, Nq4, Kq4, t4, ct4, Eq4, Cq4, Vq4, Aq4⟩ := hQ4
          have nr_r1_4 : r1 ≠ r4 := Nat.ne_of_lt (Nat.lt_of_lt_of_le f3_13.lt gr4)
          have nr_r2_4 : r2 ≠ r4 := Nat.ne_of_lt (Nat.lt_of_lt_of_le f3_17.lt gr4)
          have nr_r3_4 : r3 ≠ r4 := Nat.ne_of_lt (Nat.lt_of_lt_of_le Eq3.lt gr4)
          have N4 := Fr.app N3 (fun y hy => Nat.le_trans zs3 (Nq4 y hy))
          have f4_0 := own_cpt_keep f3_0 Kq4 ns0
          have f4_1 := own_sta_keep f3_1 Kq4 ns0
          have f4_2 := own_sta_keep f3_2 Kq4 ns0
          have f4_3 := own_sta_keep f3_3 Kq4 ns0
          have f4_4 := own_sta_keep f3_4 Kq4 ns0
          have f4_5 := own_sta_keep f3_5 Kq4 ns0
          have f4_6 := own_sta_keep f3_6 Kq4 ns0
          have f4_7 := own_sta_keep f3_7 Kq4 ns0
          have f4_8 := own_sta_keep f3_8 Kq4 ns0
          have f4_9 := f3_9.keep Kq4
          have f4_10 := f3_10.keep Kq4
          have f4_11 := f3_11.keep Kq4
          have f4_12 := f3_12.keep Kq4
          have f4_13 := f3_13.keep Kq4
          have f4_14 := f3_14.keep Kq4 nin0
          have f4_15 := f3_15.keep Kq4 nin0
          have f4_16 := f3_16.keep Kq4 nin0
          have f4_17 := f3_17.keep Kq4
          have f4_18 := f3_18.keep Kq4 nin0
          have f4_19 := f3_19.keep Kq4 nin0
          have f4_20 := f3_20.keep Kq4 nin0
          have f4_21 := Eq3.keep Kq4
          have f4_22 := Cq3.keep Kq4 nin0
          have f4_23 := Vq3.keep Kq4 nin0
          have f4_24 := Aq3.keep Kq4 nin0
          have zs4 := Nat.le_trans zs3 Kq4.1
          refine gStoreA 134 X4 hx (H at_132) (l' := #[.val (.int p0), .val (.long p1), .second, .val (.long p2), .second, .val (.long p3), .second, .val (.long p4), .second, .val (.int k1), .val (.int k2), .val (.int s1), .val (.int s2), .val (.long w2), .second, .val (.long x2), .second, .val (.int md), .val (.ref r1), .val (.ref r2), .val (.ref r3), .val (.ref r4), .unset, .unset, .unset]) rfl rfl rfl ?_
          refine gNew X4 hx hZ hown (ow hw 39 rfl) (ow hw 40 rfl) (ow hw 41 rfl) rfl (H at_134) (pc' := 137) rfl (by decide) (by decide) (fun T5 h5 b5 X5 e5 g5 E5 A5 D5 => ?_)
          have ne_K1_b5 : K1 ≠ b5 := Nat.ne_of_lt (Nat.lt_of_lt_of_eq f4_9.lt g5.symm)
          have ne_U1_b5 : U1 ≠ b5 := Nat.ne_of_lt (Nat.lt_of_lt_of_eq f4_10.lt g5.symm)
          have ne_K2_b5 : K2 ≠ b5 := Nat.ne_of_lt (Nat.lt_of_lt_of_eq f4_11.lt g5.symm)
          have ne_U2_b5 : U2 ≠ b5 := Nat.ne_of_lt (Nat.lt_of_lt_of_eq f4_12.lt g5.symm)
          have ne_r1_b5 : r1 ≠ b5 := Nat.ne_of_lt (Nat.lt_of_lt_of_eq f4_13.lt g5.symm)
          have ne_t1_b5 : t1 ≠ b5 := Nat.ne_of_lt (Nat.lt_of_lt_of_eq f4_16.lt g5.symm)
          have ne_r2_b5 : r2 ≠ b5 := Nat.ne_of_lt (Nat.lt_of_lt_of_eq f4_17.lt g5.symm)
          have ne_t2_b5 : t2 ≠ b5 := Nat.ne_of_lt (Nat.lt_of_lt_of_eq f4_20.lt g5.symm)
          have ne_r3_b5 : r3 ≠ b5 := Nat.ne_of_lt (Nat.lt_of_lt_of_eq f4_21.lt g5.symm)
          have ne_t3_b5 : t3 ≠ b5 := Nat.ne_of_lt (Nat.lt_of_lt_of_eq f4_24.lt g5.symm)
          have ne_r4_b5 : r4 ≠ b5 := Nat.ne_of_lt (Nat.lt_of_lt_of_eq Eq4.lt g5.symm)
          have ne_t4_b5 : t4 ≠ b5 := Nat.ne_of_lt (Nat.lt_of_lt_of_eq Aq4.lt g5.symm)
          have H5 := H4.trans (CHr.ext E5 H4.1)
          have hk5 := Nat.le_trans (Nat.le_refl _) E5.1
          have s5_b := Safe.ext E5 H4.1 (Safe.new (Nat.le_of_eq g5.symm))
          have f5_0 := f4_0.ext E5
          have f5_1 := f4_1.ext E5
          have f5_2 := f4_2.ext E5
          have f5_3 := f4_3.ext E5
          have f5_4 := f4_4.ext E5
          have f5_5 := f4_5.ext E5
          have f5_6 := f4_6.ext E5
          have f5_7 := f4_7.ext E5
          have f5_8 := f4_8.ext E5
          have f5_9 := f4_9.ext E5
          have f5_10 := f4_10.ext E5
          have f5_11 := f4_11.ext E5
          have f5_12 := f4_12.ext E5
          have f5_13 := f4_13.ext E5
          have f5_14 := f4_14.ext E5
          have f5_15 := f4_15.ext E5
          have f5_16 := f4_16.ext E5
          have f5_17 := f4_17.ext E5
          have f5_18 := f4_18.ext E5
          have f5_19 := f4_19.ext E5
          have f5_20 := f4_20.ext E5
          have f5_21 := f4_21.ext E5
          have f5_22 := f4_22.ext E5
          have f5_23 := f4_23.ext E5
          have f5_24 := f4_24.ext E5
          have f5_25 := Eq4.ext E5
          have f5_26 := Cq4.ext E5
          have f5_27 := Vq4.ext E5
          have f5_28 := Aq4.ext E5
          have sz_b5 : h0.size ≤ b5 := Nat.le_trans zs4 (Nat.le_of_eq g5.symm)
          have zs5 : h0.size ≤ h5.size := Nat.le_trans zs4 E5.1
          have F5_kind : Fld Z h5 b5 "com/example/strict_chain/strictchain/Finding" "kind" "Lcom/example/strict_chain/strictchain/Finding$Kind;" .null := D5 (Or.inr (ow hw 68 rfl)) (ty := (.object "com/example/strict_chain/strictchain/Finding$Kind")) (by decide)
          have F5_subject : Fld Z h5 b5 "com/example/strict_chain/strictchain/Finding" "subject" "Lcom/example/strict_chain/strictchain/Finding$Subject;" .null := D5 (Or.inr (ow hw 73 rfl)) (ty := (.object "com/example/strict_chain/strictchain/Finding$Subject")) (by decide)
          have F5_subjectValue : Fld Z h5 b5 "com/example/strict_chain/strictchain/Finding" "subjectValue" "Ljava/lang/String;" .null := D5 (Or.inr (ow hw 77 rfl)) (ty := (.object "java/lang/String")) (by decide)
          have F5_explanation : Fld Z h5 b5 "com/example/strict_chain/strictchain/Finding" "explanation" "Ljava/lang/String;" .null := D5 (Or.inr (ow hw 80 rfl)) (ty := (.object "java/lang/String")) (by decide)
          refine gDup 138 X5 hx (H at_137) rfl rfl ?_
          refine gLoadI 140 X5 hx (H at_138) rfl rfl ?_
          refine gCallSJ X5 hx hZ (y := mn3) hown e5 (by rw [hml]; rfl) (ow hw 42 rfl) (ow hw 43 rfl) (ow hw 2 rfl) (ow hw 44 rfl) (by decide) (argsL := [(.int k1)]) (st := [(.ref b5), (.ref b5)]) (c_kd l Z a0 hw k1 a_INVALID a_NOT_PORTABLE a_SUSPICIOUS K1 qK1 h5 f5_1 f5_2 f5_3) (lenOf pd_1 rfl) (H at_140) (pc' := 143) rfl rfl rfl rfl (by decide) (W := 2) (Nat.le_of_eq rfl) (by decide) (by decide) (by decide) ?_
          intro T6 X6 e6
          refine gLoadI 145 X6 hx (H at_143) rfl rfl ?_
          refine gCallSJ X6 hx hZ (y := mn6) hown e6 (by rw [hml]; rfl) (ow hw 48 rfl) (ow hw 49 rfl) (ow hw 2 rfl) (ow hw 50 rfl) (by decide) (argsL := [(.int s1)]) (st := [(.ref K1), (.ref b5), (.ref b5)]) (c_sd l Z a0 hw s1 a_FILTER a_SERVLET a_SERVLET_MAPPING a_ERROR_PAGE a_WELCOME_FILE U1 qU1 h5 f5_4 f5_5 f5_6 f5_7 f5_8) (lenOf pd_2 rfl) (H at_145) (pc' := 148) rfl rfl rfl rfl (by decide) (W := 3) (Nat.le_of_eq rfl) (by decide) (by decide) (by decide) ?_
          intro T7 X7 e7
          refine gLoadA 150 X7 hx (H at_148) rfl rfl rfl ?_
          refine gLoadA 152 X7 hx (H at_150) rfl rfl rfl ?_
          refine gCallIH X7 hx hZ (y := mn0) rfl hown e7 (by rw [hml]; rfl) hS hk5 hEL H5 (ow hw 54 rfl) (ow hw 55 rfl) (ow hw 41 rfl) (ow hw 56 rfl) (by decide) sl0 (argsL := [(.ref K1), (.ref U1), (.ref r1), (.ref r2)]) (st := [(.ref b5)]) (c_finit l Z a0 hw b5 K1 U1 r1 r2 h0.size h5 hEL sz_b5 A5 F5_kind F5_subject F5_subjectValue F5_explanation f5_9 f5_10 f5_13 f5_17) (lenOf pd_6 rfl) (H at_152) (pc' := 155) rfl rfl (by decide) (W := 1) (Nat.le_of_eq rfl) (by decide) (by decide) (by decide) ?_
          intro T8 v8 L8 X8 hS hZ hown C8 H8 hQ8
          have s8_0 := C8.safe A5.lt s5_b
          obtain ⟨rfl, Nq8, Kq8, Eq8, G8_kind, G8_subject, G8_subjectValue, G8_explanation⟩ := hQ8
          have N8 := Fr.app N4 Nq8
          have f8_0 := own_cpt_keep f5_0 Kq8 (nsS (Exa.nostat A5) ns0)
          have f8_1 := own_sta_keep f5_1 Kq8 (nsS (Exa.nostat A5) ns0)
          have f8_2 := own_sta_keep f5_2 Kq8 (nsS (Exa.nostat A5) ns0)
          have f8_3 := own_sta_keep f5_3 Kq8 (nsS (Exa.nostat A5) ns0)
          have f8_4 := own_sta_keep f5_4 Kq8 (nsS (Exa.nostat A5) ns0)
          have f8_5 := own_sta_keep f5_5 Kq8 (nsS (Exa.nostat A5) ns0)
          have f8_6 := own_sta_keep f5_6 Kq8 (nsS (Exa.nostat A5) ns0)
          have f8_7 := own_sta_keep f5_7 Kq8 (nsS (Exa.nostat A5) ns0)
          have f8_8 := own_sta_keep f5_8 Kq8 (nsS (Exa.nostat A5) ns0)
          have f8_9 := f5_9.keep Kq8
          have f8_10 := f5_10.keep Kq8
          have f8_11 := f5_11.keep Kq8
          have f8_12 := f5_12.keep Kq8
          have f8_13 := f5_13.keep Kq8
          have f8_14 := f5_14.keep Kq8 (ninS ne_r1_b5 nin0)
          have f8_15 := f5_15.keep Kq8 (ninS ne_r1_b5 nin0)
          have f8_16 := f5_16.keep Kq8 (ninS ne_t1_b5 nin0)
          have f8_17 := f5_17.keep Kq8
          have f8_18 := f5_18.keep Kq8 (ninS ne_r2_b5 nin0)
          have f8_19 := f5_19.keep Kq8 (ninS ne_r2_b5 nin0)
          have f8_20 := f5_20.keep Kq8 (ninS ne_t2_b5 nin0)
          have f8_21 := f5_21.keep Kq8
          have f8_22 := f5_22.keep Kq8 (ninS ne_r3_b5 nin0)
          have f8_23 := f5_23.keep Kq8 (ninS ne_r3_b5 nin0)
          have f8_24 := f5_24.keep Kq8 (ninS ne_t3_b5 nin0)
          have f8_25 := f5_25.keep Kq8
          have f8_26 := f5_26.keep Kq8 (ninS ne_r4_b5 nin0)
          have f8_27 := f5_27.keep Kq8 (ninS ne_r4_b5 nin0)
          have f8_28 := f5_28.keep Kq8 (ninS ne_t4_b5 nin0)
          have zs8 := Nat.le_trans zs5 Kq8.1
          refine gStoreA 157 X8 hx (H at_155) (l' := #[.val (.int p0), .val (.long p1), .second, .val (.long p2), .second, .val (.long p3), .second, .val (.long p4), .second, .val (.int k1), .val (.int k2), .val (.int s1), .val (.int s2), .val (.long w2), .second, .val (.long x2), .second, .val (.int md), .val (.ref r1), .val (.ref r2), .val (.ref r3), .val (.ref r4), .val (.ref b5), .unset, .unset]) rfl rfl rfl ?_
          refine gNew X8 hx hZ hown (ow hw 39 rfl) (ow hw 40 rfl) (ow hw 41 rfl) rfl (H at_157) (pc' := 160) rfl (by decide) (by decide) (fun T9 h9 b9 X9 e9 g9 E9 A9 D9 => ?_)
          have ne_K1_b9 : K1 ≠ b9 := Nat.ne_of_lt (Nat.lt_of_lt_of_eq f8_9.lt g9.symm)
          have ne_U1_b9 : U1 ≠ b9 := Nat.ne_of_lt (Nat.lt_of_lt_of_eq f8_10.lt g9.symm)
          have ne_K2_b9 : K2 ≠ b9 := Nat.ne_of_lt (Nat.lt_of_lt_of_eq f8_11.lt g9.symm)
          have ne_U2_b9 : U2 ≠ b9 := Nat.ne_of_lt (Nat.lt_of_lt_of_eq f8_12.lt g9.symm)
          have ne_r1_b9 : r1 ≠ b9 := Nat.ne_of_lt (Nat.lt_of_lt_of_eq f8_13.lt g9.symm)
          have ne_t1_b9 : t1 ≠ b9 := Nat.ne_of_lt (Nat.lt_of_lt_of_eq f8_16.lt g9.symm)
          have ne_r2_b9 : r2 ≠ b9 := Nat.ne_of_lt (Nat.lt_of_lt_of_eq f8_17.lt g9.symm)
          have ne_t2_b9 : t2 ≠ b9 := Nat.ne_of_lt (Nat.lt_of_lt_of_eq f8_20.lt g9.symm)
          have ne_r3_b9 : r3 ≠ b9 := Nat.ne_of_lt (Nat.lt_of_lt_of_eq f8_21.lt g9.symm)
          have ne_t3_b9 : t3 ≠ b9 := Nat.ne_of_lt (Nat.lt_of_lt_of_eq f8_24.lt g9.symm)
          have ne_r4_b9 : r4 ≠ b9 := Nat.ne_of_lt (Nat.lt_of_lt_of_eq f8_25.lt g9.symm)
          have ne_t4_b9 : t4 ≠ b9 := Nat.ne_of_lt (Nat.lt_of_lt_of_eq f8_28.lt g9.symm)
          have ne_b5_b9 : b5 ≠ b9 := Nat.ne_of_lt (Nat.lt_of_lt_of_eq Eq8.lt g9.symm)
          have H9 := H8.trans (CHr.ext E9 H8.1)
          have hk9 := Nat.le_trans (Nat.le_refl _) E9.1
          have s9_0 := Safe.ext E9 H8.1 s8_0
          have s9_b := Safe.ext E9 H8.1 (Safe.new (Nat.le_of_eq g9.symm))
          have f9_0 := f8_0.ext E9
          have f9_1 := f8_1.ext E9
          have f9_2 := f8_2.ext E9
          have f9_3 := f8_3.ext E9
          have f9_4 := f8_4.ext E9
          have f9_5 := f8_5.ext E9
          have f9_6 := f8_6.ext E9
          have f9_7 := f8_7.ext E9
          have f9_8 := f8_8.ext E9
          have f9_9 := f8_9.ext E9
          have f9_10 := f8_10.ext E9
          have f9_11 := f8_11.ext E9
          have f9_12 := f8_12.ext E9
          have f9_13 := f8_13.ext E9
          have f9_14 := f8_14.ext E9
          have f9_15 := f8_15.ext E9
          have f9_16 := f8_16.ext E9
          have f9_17 := f8_17.ext E9
          have f9_18 := f8_18.ext E9
          have f9_19 := f8_19.ext E9
          have f9_20 := f8_20.ext E9
          have f9_21 := f8_21.ext E9
          have f9_22 := f8_22.ext E9
          have f9_23 := f8_23.ext E9
          have f9_24 := f8_24.ext E9
          have f9_25 := f8_25.ext E9
          have f9_26 := f8_26.ext E9
          have f9_27 := f8_27.ext E9
          have f9_28 := f8_28.ext E9
          have f9_29 := Eq8.ext E9
          have f9_30 := G8_kind.ext E9
          have f9_31 := G8_subject.ext E9
          have f9_32 := G8_subjectValue.ext E9
          have f9_33 := G8_explanation.ext E9
          have sz_b9 : h0.size ≤ b9 := Nat.le_trans zs8 (Nat.le_of_eq g9.symm)
          have zs9 : h0.size ≤ h9.size := Nat.le_trans zs8 E9.1
          have F9_kind : Fld Z h9 b9 "com/example/strict_chain/strictchain/Finding" "kind" "Lcom/example/strict_chain/strictchain/Finding$Kind;" .null := D9 (Or.inr (ow hw 68 rfl)) (ty := (.object "com/example/strict_chain/strictchain/Finding$Kind")) (by decide)
          have F9_subject : Fld Z h9 b9 "com/example/strict_chain/strictchain/Finding" "subject" "Lcom/example/strict_chain/strictchain/Finding$Subject;" .null := D9 (Or.inr (ow hw 73 rfl)) (ty := (.object "com/example/strict_chain/strictchain/Finding$Subject")) (by decide)
          have F9_subjectValue : Fld Z h9 b9 "com/example/strict_chain/strictchain/Finding" "subjectValue" "Ljava/lang/String;" .null := D9 (Or.inr (ow hw 77 rfl)) (ty := (.object "java/lang/String")) (by decide)
          have F9_explanation : Fld Z h9 b9 "com/example/strict_chain/strictchain/Finding" "explanation" "Ljava/lang/String;" .null := D9 (Or.inr (ow hw 80 rfl)) (ty := (.object "java/lang/String")) (by decide)
          refine gDup 161 X9 hx (H at_160) rfl rfl ?_
          refine gLoadI 163 X9 hx (H at_161) rfl rfl ?_
          refine gCallSJ X9 hx hZ (y := mn3) hown e9 (by rw [hml]; rfl) (ow hw 42 rfl) (ow hw 43 rfl) (ow hw 2 rfl) (ow hw 44 rfl) (by decide) (argsL := [(.int k2)]) (st := [(.ref b9), (.ref b9)]) (c_kd l Z a0 hw k2 a_INVALID a_NOT_PORTABLE a_SUSPICIOUS K2 qK2 h9 f9_1 f9_2 f9_3) (lenOf pd_1 rfl) (H at_163) (pc' := 166) rfl rfl rfl rfl (by decide) (W := 2) (Nat.le_of_eq rfl) (by decide) (by decide) (by decide) ?_
          intro T10 X10 e10
          refine gLoadI 168 X10 hx (H at_166) rfl rfl ?_
          refine gCallSJ X10 hx hZ (y := mn6) hown e10 (by rw [hml]; rfl) (ow hw 48 rfl) (ow hw 49 rfl) (ow hw 2 rfl) (ow hw 50 rfl) (by decide) (argsL := [(.int s2)]) (st := [(.ref K2), (.ref b9), (.ref b9)]) (c_sd l Z a0 hw s2 a_FILTER a_SERVLET a_SERVLET_MAPPING a_ERROR_PAGE a_WELCOME_FILE U2 qU2 h9 f9_4 f9_5 f9_6 f9_7 f9_8) (lenOf pd_2 rfl) (H at_168) (pc' := 171) rfl rfl rfl rfl (by decide) (W := 3) (Nat.le_of_eq rfl) (by decide) (by decide) (by decide) ?_
          intro T11 X11 e11
          refine gLoadA 173 X11 hx (H at_171) rfl rfl rfl ?_
          refine gLoadA 175 X11 hx (H at_173) rfl rfl rfl ?_
          refine gCallIH X11 hx hZ (y := mn0) rfl hown e11 (by rw [hml]; rfl) hS hk9 hEL H9 (ow hw 54 rfl) (ow hw 55 rfl) (ow hw 41 rfl) (ow hw 56 rfl) (by decide) sl0 (argsL := [(.ref K2), (.ref U2), (.ref r3), (.ref r4)]) (st := [(.ref b9)]) (c_finit l Z a0 hw b9 K2 U2 r3 r4 h0.size h9 hEL sz_b9 A9 F9_kind F9_subject F9_subjectValue F9_explanation f9_11 f9_12 f9_21 f9_25) (lenOf pd_6 rfl) (H at_175) (pc' := 178) rfl rfl (by decide) (W := 1) (Nat.le_of_eq rfl) (by decide) (by decide) (by decide) ?_
          intro T12 v12 L12 X12 hS hZ hown C12 H12 hQ12
          have s12_0 := C12.safe f9_29.lt s9_0
          have s12_1 := C12.safe A9.lt s9_b
          obtain ⟨rfl, Nq12, Kq12, Eq12, G12_kind, G12_subject, G12_subjectValue, G12_explanation⟩ := hQ12
          have N12 := Fr.app N8 Nq12
          have f12_0 := own_cpt_keep f9_0 Kq12 (nsS (Exa.nostat A9) ns0)
          have f12_1 := own_sta_keep f9_1 Kq12 (nsS (Exa.nostat A9) ns0)
          have f12_2 := own_sta_keep f9_2 Kq12 (nsS (Exa.nostat A9) ns0)
          have f12_3 := own_sta_keep f9_3 Kq12 (nsS (Exa.nostat A9) ns0)
          have f12_4 := own_sta_keep f9_4 Kq12 (nsS (Exa.nostat A9) ns0)
          have f12_5 := own_sta_keep f9_5 Kq12 (nsS (Exa.nostat A9) ns0)
          have f12_6 := own_sta_keep f9_6 Kq12 (nsS (Exa.nostat A9) ns0)
          have f12_7 := own_sta_keep f9_7 Kq12 (nsS (Exa.nostat A9) ns0)
          have f12_8 := own_sta_keep f9_8 Kq12 (nsS (Exa.nostat A9) ns0)
          have f12_9 := f9_9.keep Kq12
          have f12_10 := f9_10.keep Kq12
          have f12_11 := f9_11.keep Kq12
          have f12_12 := f9_12.keep Kq12
          have f12_13 := f9_13.keep Kq12
          have f12_14 := f9_14.keep Kq12 (ninS ne_r1_b9 nin0)
          have f12_15 := f9_15.keep Kq12 (ninS ne_r1_b9 nin0)
          have f12_16 := f9_16.keep Kq12 (ninS ne_t1_b9 nin0)
          have f12_17 := f9_17.keep Kq12
          have f12_18 := f9_18.keep Kq12 (ninS ne_r2_b9 nin0)
          have f12_19 := f9_19.keep Kq12 (ninS ne_r2_b9 nin0)
          have f12_20 := f9_20.keep Kq12 (ninS ne_t2_b9 nin0)
          have f12_21 := f9_21.keep Kq12
          have f12_22 := f9_22.keep Kq12 (ninS ne_r3_b9 nin0)
          have f12_23 := f9_23.keep Kq12 (ninS ne_r3_b9 nin0)
          have f12_24 := f9_24.keep Kq12 (ninS ne_t3_b9 nin0)
          have f12_25 := f9_25.keep Kq12
          have f12_26 := f9_26.keep Kq12 (ninS ne_r4_b9 nin0)
          have f12_27 := f9_27.keep Kq12 (ninS ne_r4_b9 nin0)
          have f12_28 := f9_28.keep Kq12 (ninS ne_t4_b9 nin0)
          have f12_29 := f9_29.keep Kq12
          have f12_30 := f9_30.keep Kq12 (ninS ne_b5_b9 nin0)
          have f12_31 := f9_31.keep Kq12 (ninS ne_b5_b9 nin0)
          have f12_32 := f9_32.keep Kq12 (ninS ne_b5_b9 nin0)
          have f12_33 := f9_33.keep Kq12 (ninS ne_b5_b9 nin0)
          have zs12 := Nat.le_trans zs9 Kq12.1
          refine gStoreA 180 X12 hx (H at_178) (l' := #[.val (.int p0), .val (.long p1), .second, .val (.long p2), .second, .val (.long p3), .second, .val (.long p4), .second, .val (.int k1), .val (.int k2), .val (.int s1), .val (.int s2), .val (.long w2), .second, .val (.long x2), .second, .val (.int md), .val (.ref r1), .val (.ref r2), .val (.ref r3), .val (.ref r4), .val (.ref b5), .val (.ref b9), .unset]) rfl rfl rfl ?_
          refine gLoadI 182 X12 hx (H at_180) rfl rfl ?_
          refine gIconst 183 X12 hx (v := (1 : Int32)) (H at_182) rfl rfl ?_
          refine gIcmpNeT X12 hx (H at_183) (pc' := 201) (by decide) (by decide) (pn := 186) rfl (fun (c183 : ¬ md.toInt = (1 : Int)) => ?_) (fun (c183 : md.toInt = (1 : Int)) => ?_)
          · refine gLoadI 203 X12 hx (H at_201) rfl rfl ?_
            refine gIconst 204 X12 hx (v := (2 : Int32)) (H at_203) rfl rfl ?_
            refine gIcmpNeT X12 hx (H at_204) (pc' := 223) (by decide) (by decide) (pn := 207) rfl (fun (c204 : ¬ md.toInt = (2 : Int)) => ?_) (fun (c204 : md.toInt = (2 : Int)) => ?_)
            · refine gLoadI 225 X12 hx (H at_223) rfl rfl ?_
              refine gIconst 226 X12 hx (v := (3 : Int32)) (H at_225) rfl rfl ?_
              refine gIcmpNeT X12 hx (H at_226) (pc' := 237) (by decide) (by decide) (pn := 229) rfl (fun (c226 : ¬ md.toInt = (3 : Int)) => ?_) (fun (c226 : md.toInt = (3 : Int)) => ?_)
              · refine gLoadI 239 X12 hx (H at_237) rfl rfl ?_
                refine gLoadI 241 X12 hx (H at_239) rfl rfl ?_
                refine gIcmpNe X12 hx (H at_241) (pc' := 274) (by decide) (by decide) (pn := 244) rfl (fun (c241 : ¬ k1 = k2) => ?_) (fun (c241 : k1 = k2) => ?_)
                · refine gIconst 275 X12 hx (v := (0 : Int32)) (H at_274) rfl rfl ?_
                  refine gStoreI 277 X12 hx (H at_275) (l' := #[.val (.int p0), .val (.long p1), .second, .val (.long p2), .second, .val (.long p3), .second, .val (.long p4), .second, .val (.int k1), .val (.int k2), .val (.int s1), .val (.int s2), .val (.long w2), .second, .val (.long x2), .second, .val (.int md), .val (.ref r1), .val (.ref r2), .val (.ref r3), .val (.ref r4), .val (.ref b5), .val (.ref b9), .val (.int (0 : Int32))]) rfl rfl ?_
                  refine gLoadA 279 X12 hx (H at_277) rfl rfl rfl ?_
                  refine gLoadA 281 X12 hx (H at_279) rfl rfl rfl ?_
                  refine gCallVJ X12 hx hZ (y := mn1) hown rfl (by rw [hml]; rfl) f12_29 (ow hw 84 rfl) (ow hw 85 rfl) (ow hw 87 rfl) (ow hw 86 rfl) (ow hw 41 rfl) (ow hw 88 rfl) (by decide) (argsL := [(.ref b9)]) (st := []) (c_feq l Z a0 hw b5 b9 K1 U1 r1 r2 K2 U2 r3 r4 (txt p1) (txt w2) (txt p3) (txt x2) T12.heap f12_0 (txt_len _) (txt_rg _) ⟨t1, ct1, f12_13, f12_14, f12_15, f12_16⟩ (txt_len _) (txt_rg _) ⟨t3, ct3, f12_21, f12_22, f12_23, f12_24⟩ (txt_len _) (txt_rg _) ⟨t2, ct2, f12_17, f12_18, f12_19, f12_20⟩ (txt_len _) (txt_rg _) ⟨t4, ct4, f12_25, f12_26, f12_27, f12_28⟩ (fun q => absurd q nr_r1_3) (fun q => absurd q nr_r2_4) f12_29 f12_30 f12_31 f12_32 f12_33 Eq12 G12_kind G12_subject G12_subjectValue G12_explanation) (lenOf pd_7 rfl) (H at_281) (pc' := 284) rfl rfl rfl rfl (by decide) (W := 0) (Nat.le_of_eq rfl) (by decide) (by decide) (by decide) ?_
                  intro T13 X13 e13
                  rw [show b2i (decide (K1 = K2 ∧ U1 = U2 ∧ txt p1 = txt w2 ∧ txt p3 = txt x2)) = 0 from b2_f (fun q => c241 (kd_inj hk1 hk2 dk01 dk02 dk12 (by rw [← qK1, ← qK2]; exact q.1)))]
                  refine gLoadI 286 X13 hx (H at_284) rfl rfl ?_
                  refine gIcmpNeT X13 hx (H at_286) (pc' := 305) (by decide) (by decide) (pn := 289) rfl (fun (c286 : ¬ (0 : Int) = (0 : Int)) => ?_) (fun (c286 : (0 : Int) = (0 : Int)) => ?_)
                  · exact absurd c286 (by decide)
                  · refine gLoadA 291 X13 hx (H at_289) rfl rfl rfl ?_
                    refine gLoadA 293 X13 hx (H at_291) rfl rfl rfl ?_
                    refine gCallVJ X13 hx hZ (y := mn1) hown e13 (by rw [hml]; rfl) Eq12 (ow hw 84 rfl) (ow hw 85 rfl) (ow hw 87 rfl) (ow hw 86 rfl) (ow hw 41 rfl) (ow hw 88 rfl) (by decide) (argsL := [(.ref b5)]) (st := []) (c_feq l Z a0 hw b9 b5 K2 U2 r3 r4 K1 U1 r1 r2 (txt w2) (txt p1) (txt x2) (txt p3) T12.heap f12_0 (txt_len _) (txt_rg _) ⟨t3, ct3, f12_21, f12_22, f12_23, f12_24⟩ (txt_len _) (txt_rg _) ⟨t1, ct1, f12_13, f12_14, f12_15, f12_16⟩ (txt_len _) (txt_rg _) ⟨t4, ct4, f12_25, f12_26, f12_27, f12_28⟩ (txt_len _) (txt_rg _) ⟨t2, ct2, f12_17, f12_18, f12_19, f12_20⟩ (fun q => absurd q (Ne.symm nr_r1_3)) (fun q => absurd q (Ne.symm nr_r2_4)) Eq12 G12_kind G12_subject G12_subjectValue G12_explanation f12_29 f12_30 f12_31 f12_32 f12_33) (lenOf pd_7 rfl) (H at_293) (pc' := 296) rfl rfl rfl rfl (by decide) (W := 0) (Nat.le_of_eq rfl) (by decide) (by decide) (by decide) ?_
                    intro T14 X14 e14
                    rw [show b2i (decide (K2 = K1 ∧ U2 = U1 ∧ txt w2 = txt p1 ∧ txt x2 = txt p3)) = 0 from b2_f (fun q => c241 (kd_inj hk1 hk2 dk01 dk02 dk12 (by rw [← qK1, ← qK2]; exact q.1.symm)))]
                    refine gLoadI 298 X14 hx (H at_296) rfl rfl ?_
                    refine gIcmpNeT X14 hx (H at_298) (pc' := 305) (by decide) (by decide) (pn := 301) rfl (fun (c298 : ¬ (0 : Int) = (0 : Int)) => ?_) (fun (c298 : (0 : Int) = (0 : Int)) => ?_)
                    · exact absurd c298 (by decide)
                    · refine gIconst 302 X14 hx (v := (1 : Int32)) (H at_301) rfl rfl ?_
                      refine gGoto X14 hx (H at_302) (pc' := 306) (by decide) (by decide) ?_
                      exact gRetHN X14 hx hlk hret (by simp) (H at_306) (w := (1 : Int32)) rfl e14 hS (Nat.le_refl _) hZ hEL H12 (by decide) (by decide) (⟨rfl, N12⟩)
                · refine gLoadI 246 X12 hx (H at_244) rfl rfl ?_
                  refine gLoadI 248 X12 hx (H at_246) rfl rfl ?_
                  refine gIcmpNe X12 hx (H at_248) (pc' := 274) (by decide) (by decide) (pn := 251) rfl (fun (c248 : ¬ s1 = s2) => ?_) (fun (c248 : s1 = s2) => ?_)
                  · refine gIconst 275 X12 hx (v := (0 : Int32)) (H at_274) rfl rfl ?_
                    refine gStoreI 277 X12 hx (H at_275) (l' := #[.val (.int p0), .val (.long p1), .second, .val (.long p2), .second, .val (.long p3), .second, .val (.long p4), .second, .val (.int k1), .val (.int k2), .val (.int s1), .val (.int s2), .val (.long w2), .second, .val (.long x2), .second, .val (.int md), .val (.ref r1), .val (.ref r2), .val (.ref r3), .val (.ref r4), .val (.ref b5), .val (.ref b9), .val (.int (0 : Int32))]) rfl rfl ?_
                    refine gLoadA 279 X12 hx (H at_277) rfl rfl rfl ?_
                    refine gLoadA 281 X12 hx (H at_279) rfl rfl rfl ?_
                    refine gCallVJ X12 hx hZ (y := mn1) hown rfl (by rw [hml]; rfl) f12_29 (ow hw 84 rfl) (ow hw 85 rfl) (ow hw 87 rfl) (ow hw 86 rfl) (ow hw 41 rfl) (ow hw 88 rfl) (by decide) (argsL := [(.ref b9)]) (st := []) (c_feq l Z a0 hw b5 b9 K1 U1 r1 r2 K2 U2 r3 r4 (txt p1) (txt w2) (txt p3) (txt x2) T12.heap f12_0 (txt_len _) (txt_rg _) ⟨t1, ct1, f12_13, f12_14, f12_15, f12_16⟩ (txt_len _) (txt_rg _) ⟨t3, ct3, f12_21, f12_22, f12_23, f12_24⟩ (txt_len _) (txt_rg _) ⟨t2, ct2, f12_17, f12_18, f12_19, f12_20⟩ (txt_len _) (txt_rg _) ⟨t4, ct4, f12_25, f12_26, f12_27, f12_28⟩ (fun q => absurd q nr_r1_3) (fun q => absurd q nr_r2_4) f12_29 f12_30 f12_31 f12_32 f12_33 Eq12 G12_kind G12_subject G12_subjectValue G12_explanation) (lenOf pd_7 rfl) (H at_281) (pc' := 284) rfl rfl rfl rfl (by decide) (W := 0) (Nat.le_of_eq rfl) (by decide) (by decide) (by decide) ?_
                    intro T15 X15 e15
                    rw [show b2i (decide (K1 = K2 ∧ U1 = U2 ∧ txt p1 = txt w2 ∧ txt p3 = txt x2)) = 0 from b2_f (fun q => c248 (sd_inj hs1 hs2 du01 du02 du03 du04 du12 du13 du14 du23 du24 du34 (by rw [← qU1, ← qU2]; exact q.2.1)))]
                    refine gLoadI 286 X15 hx (H at_284) rfl rfl ?_
                    refine gIcmpNeT X15 hx (H at_286) (pc' := 305) (by decide) (by decide) (pn := 289) rfl (fun (c286 : ¬ (0 : Int) = (0 : Int)) => ?_) (fun (c286 : (0 : Int) = (0 : Int)) => ?_)
                    · exact absurd c286 (by decide)
                    · refine gLoadA 291 X15 hx (H at_289) rfl rfl rfl ?_
                      refine gLoadA 293 X15 hx (H at_291) rfl rfl rfl ?_
                      refine gCallVJ X15 hx hZ (y := mn1) hown e15 (by rw [hml]; rfl) Eq12 (ow hw 84 rfl) (ow hw 85 rfl) (ow hw 87 rfl) (ow hw 86 rfl) (ow hw 41 rfl) (ow hw 88 rfl) (by decide) (argsL := [(.ref b5)]) (st := []) (c_feq l Z a0 hw b9 b5 K2 U2 r3 r4 K1 U1 r1 r2 (txt w2) (txt p1) (txt x2) (txt p3) T12.heap f12_0 (txt_len _) (txt_rg _) ⟨t3, ct3, f12_21, f12_22, f12_23, f12_24⟩ (txt_len _) (txt_rg _) ⟨t1, ct1, f12_13, f12_14, f12_15, f12_16⟩ (txt_len _) (txt_rg _) ⟨t4, ct4, f12_25, f12_26, f12_27, f12_28⟩ (txt_len _) (txt_rg _) ⟨t2, ct2, f12_17, f12_18, f12_19, f12_20⟩ (fun q => absurd q (Ne.symm nr_r1_3)) (fun q => absurd q (Ne.symm nr_r2_4)) Eq12 G12_kind G12_subject G12_subjectValue G12_explanation f12_29 f12_30 f12_31 f12_32 f12_33) (lenOf pd_7 rfl) (H at_293) (pc' := 296) rfl rfl rfl rfl (by decide) (W := 0) (Nat.le_of_eq rfl) (by decide) (by decide) (by decide) ?_
                      intro T16 X16 e16
                      rw [show b2i (decide (K2 = K1 ∧ U2 = U1 ∧ txt w2 = txt p1 ∧ txt x2 = txt p3)) = 0 from b2_f (fun q => c248 (sd_inj hs1 hs2 du01 du02 du03 du04 du12 du13 du14 du23 du24 du34 (by rw [← qU1, ← qU2]; exact q.2.1.symm)))]
                      refine gLoadI 298 X16 hx (H at_296) rfl rfl ?_
                      refine gIcmpNeT X16 hx (H at_298) (pc' := 305) (by decide) (by decide) (pn := 301) rfl (fun (c298 : ¬ (0 : Int) = (0 : Int)) => ?_) (fun (c298 : (0 : Int) = (0 : Int)) => ?_)
                      · exact absurd c298 (by decide)
                      · refine gIconst 302 X16 hx (v := (1 : Int32)) (H at_301) rfl rfl ?_
                        refine gGoto X16 hx (H at_302) (pc' := 306) (by decide) (by decide) ?_
                        exact gRetHN X16 hx hlk hret (by simp) (H at_306) (w := (1 : Int32)) rfl e16 hS (Nat.le_refl _) hZ hEL H12 (by decide) (by decide) (⟨rfl, N12⟩)
                  · refine gLoadJN 252 X12 hx (H at_251) rfl rfl ?_
                    refine gLoadJ 254 X12 hx (H at_252) rfl rfl ?_
                    refine gCallSJ X12 hx hZ (y := mn5) hown rfl (by rw [hml]; rfl) (ow hw 81 rfl) (ow hw 82 rfl) (ow hw 2 rfl) (ow hw 83 rfl) (by decide) (argsL := [(.long p1), (.long w2)]) (st := []) (c_same0 l Z a0 hw p1 w2 _ _ _ _ _ _ _ _ T12.heap (own_n3 p1) (own_n3 w2) rfl rfl rfl rfl rfl rfl rfl rfl) (lenOf pd_5 rfl) (H at_254) (pc' := 257) rfl rfl rfl rfl (by decide) (W := 0) (Nat.le_of_eq rfl) (by decide) (by decide) (by decide) ?_
                    intro T17 X17 e17
                    refine gIfEq X17 hx (H at_257) (pc' := 274) (by decide) (by decide) (pn := 260) rfl (fun (c257 : (b2i (decide (txt p1 = txt w2))) = (0 : Int32)) => ?_) (fun (c257 : ¬ (b2i (decide (txt p1 = txt w2))) = (0 : Int32)) => ?_)
                    · refine gIconst 275 X17 hx (v := (0 : Int32)) (H at_274) rfl rfl ?_
                      refine gStoreI 277 X17 hx (H at_275) (l' := #[.val (.int p0), .val (.long p1), .second, .val (.long p2), .second, .val (.long p3), .second, .val (.long p4), .second, .val (.int k1), .val (.int k2), .val (.int s1), .val (.int s2), .val (.long w2), .second, .val (.long x2), .second, .val (.int md), .val (.ref r1), .val (.ref r2), .val (.ref r3), .val (.ref r4), .val (.ref b5), .val (.ref b9), .val (.int (0 : Int32))]) rfl rfl ?_
                      refine gLoadA 279 X17 hx (H at_277) rfl rfl rfl ?_
                      refine gLoadA 281 X17 hx (H at_279) rfl rfl rfl ?_
                      refine gCallVJ X17 hx hZ (y := mn1) hown e17 (by rw [hml]; rfl) f12_29 (ow hw 84 rfl) (ow hw 85 rfl) (ow hw 87 rfl) (ow hw 86 rfl) (ow hw 41 rfl) (ow hw 88 rfl) (by decide) (argsL := [(.ref b9)]) (st := []) (c_feq l Z a0 hw b5 b9 K1 U1 r1 r2 K2 U2 r3 r4 (txt p1) (txt w2) (txt p3) (txt x2) T12.heap f12_0 (txt_len _) (txt_rg _) ⟨t1, ct1, f12_13, f12_14, f12_15, f12_16⟩ (txt_len _) (txt_rg _) ⟨t3, ct3, f12_21, f12_22, f12_23, f12_24⟩ (txt_len _) (txt_rg _) ⟨t2, ct2, f12_17, f12_18, f12_19, f12_20⟩ (txt_len _) (txt_rg _) ⟨t4, ct4, f12_25, f12_26, f12_27, f12_28⟩ (fun q => absurd q nr_r1_3) (fun q => absurd q nr_r2_4) f12_29 f12_30 f12_31 f12_32 f12_33 Eq12 G12_kind G12_subject G12_subjectValue G12_explanation) (lenOf pd_7 rfl) (H at_281) (pc' := 284) rfl rfl rfl rfl (by decide) (W := 0) (Nat.le_of_eq rfl) (by decide) (by decide) (by decide) ?_
                      intro T18 X18 e18
                      rw [show b2i (decide (K1 = K2 ∧ U1 = U2 ∧ txt p1 = txt w2 ∧ txt p3 = txt x2)) = 0 from b2_f (fun q => of_decide_eq_false (b2_0.mp c257) q.2.2.1)]
                      refine gLoadI 286 X18 hx (H at_284) rfl rfl ?_
                      refine gIcmpNeT X18 hx (H at_286) (pc' := 305) (by decide) (by decide) (pn := 289) rfl (fun (c286 : ¬ (0 : Int) = (0 : Int)) => ?_) (fun (c286 : (0 : Int) = (0 : Int)) => ?_)
                      · exact absurd c286 (by decide)
                      · refine gLoadA 291 X18 hx (H at_289) rfl rfl rfl ?_
                        refine gLoadA 293 X18 hx (H at_291) rfl rfl rfl ?_
                        refine gCallVJ X18 hx hZ (y := mn1) hown e18 (by rw [hml]; rfl) Eq12 (ow hw 84 rfl) (ow hw 85 rfl) (ow hw 87 rfl) (ow hw 86 rfl) (ow hw 41 rfl) (ow hw 88 rfl) (by decide) (argsL := [(.ref b5)]) (st := []) (c_feq l Z a0 hw b9 b5 K2 U2 r3 r4 K1 U1 r1 r2 (txt w2) (txt p1) (txt x2) (txt p3) T12.heap f12_0 (txt_len _) (txt_rg _) ⟨t3, ct3, f12_21, f12_22, f12_23, f12_24⟩ (txt_len _) (txt_rg _) ⟨t1, ct1, f12_13, f12_14, f12_15, f12_16⟩ (txt_len _) (txt_rg _) ⟨t4, ct4, f12_25, f12_26, f12_27, f12_28⟩ (txt_len _) (txt_rg _) ⟨t2, ct2, f12_17, f12_18, f12_19, f12_20⟩ (fun q => absurd q (Ne.symm nr_r1_3)) (fun q => absurd q (Ne.symm nr_r2_4)) Eq12 G12_kind G12_subject G12_subjectValue G12_explanation f12_29 f12_30 f12_31 f12_32 f12_33) (lenOf pd_7 rfl) (H at_293) (pc' := 296) rfl rfl rfl rfl (by decide) (W := 0) (Nat.le_of_eq rfl) (by decide) (by decide) (by decide) ?_
                        intro T19 X19 e19
                        rw [show b2i (decide (K2 = K1 ∧ U2 = U1 ∧ txt w2 = txt p1 ∧ txt x2 = txt p3)) = 0 from b2_f (fun q => of_decide_eq_false (b2_0.mp c257) q.2.2.1.symm)]
                        refine gLoadI 298 X19 hx (H at_296) rfl rfl ?_
                        refine gIcmpNeT X19 hx (H at_298) (pc' := 305) (by decide) (by decide) (pn := 301) rfl (fun (c298 : ¬ (0 : Int) = (0 : Int)) => ?_) (fun (c298 : (0 : Int) = (0 : Int)) => ?_)
                        · exact absurd c298 (by decide)
                        · refine gIconst 302 X19 hx (v := (1 : Int32)) (H at_301) rfl rfl ?_
                          refine gGoto X19 hx (H at_302) (pc' := 306) (by decide) (by decide) ?_
                          exact gRetHN X19 hx hlk hret (by simp) (H at_306) (w := (1 : Int32)) rfl e19 hS (Nat.le_refl _) hZ hEL H12 (by decide) (by decide) (⟨rfl, N12⟩)
                    · refine gLoadJ 262 X17 hx (H at_260) rfl rfl ?_
                      refine gLoadJ 264 X17 hx (H at_262) rfl rfl ?_
                      refine gCallSJ X17 hx hZ (y := mn5) hown e17 (by rw [hml]; rfl) (ow hw 81 rfl) (ow hw 82 rfl) (ow hw 2 rfl) (ow hw 83 rfl) (by decide) (argsL := [(.long p3), (.long x2)]) (st := []) (c_same0 l Z a0 hw p3 x2 _ _ _ _ _ _ _ _ T12.heap (own_n3 p3) (own_n3 x2) rfl rfl rfl rfl rfl rfl rfl rfl) (lenOf pd_5 rfl) (H at_264) (pc' := 267) rfl rfl rfl rfl (by decide) (W := 0) (Nat.le_of_eq rfl) (by decide) (by decide) (by decide) ?_
                      intro T20 X20 e20
                      refine gIfEq X20 hx (H at_267) (pc' := 274) (by decide) (by decide) (pn := 270) rfl (fun (c267 : (b2i (decide (txt p3 = txt x2))) = (0 : Int32)) => ?_) (fun (c267 : ¬ (b2i (decide (txt p3 = txt x2))) = (0 : Int32)) => ?_)
                      · refine gIconst 275 X20 hx (v := (0 : Int32)) (H at_274) rfl rfl ?_
                        refine gStoreI 277 X20 hx (H at_275) (l' := #[.val (.int p0), .val (.long p1), .second, .val (.long p2), .second, .val (.long p3), .second, .val (.long p4), .second, .val (.int k1), .val (.int k2), .val (.int s1), .val (.int s2), .val (.long w2), .second, .val (.long x2), .second, .val (.int md), .val (.ref r1), .val (.ref r2), .val (.ref r3), .val (.ref r4), .val (.ref b5), .val (.ref b9), .val (.int (0 : Int32))]) rfl rfl ?_
                        refine gLoadA 279 X20 hx (H at_277) rfl rfl rfl ?_
                        refine gLoadA 281 X20 hx (H at_279) rfl rfl rfl ?_
                        refine gCallVJ X20 hx hZ (y := mn1) hown e20 (by rw [hml]; rfl) f12_29 (ow hw 84 rfl) (ow hw 85 rfl) (ow hw 87 rfl) (ow hw 86 rfl) (ow hw 41 rfl) (ow hw 88 rfl) (by decide) (argsL := [(.ref b9)]) (st := []) (c_feq l Z a0 hw b5 b9 K1 U1 r1 r2 K2 U2 r3 r4 (txt p1) (txt w2) (txt p3) (txt x2) T12.heap f12_0 (txt_len _) (txt_rg _) ⟨t1, ct1, f12_13, f12_14, f12_15, f12_16⟩ (txt_len _) (txt_rg _) ⟨t3, ct3, f12_21, f12_22, f12_23, f12_24⟩ (txt_len _) (txt_rg _) ⟨t2, ct2, f12_17, f12_18, f12_19, f12_20⟩ (txt_len _) (txt_rg _) ⟨t4, ct4, f12_25, f12_26, f12_27, f12_28⟩ (fun q => absurd q nr_r1_3) (fun q => absurd q nr_r2_4) f12_29 f12_30 f12_31 f12_32 f12_33 Eq12 G12_kind G12_subject G12_subjectValue G12_explanation) (lenOf pd_7 rfl) (H at_281) (pc' := 284) rfl rfl rfl rfl (by decide) (W := 0) (Nat.le_of_eq rfl) (by decide) (by decide) (by decide) ?_
                        intro T21 X21 e21
                        rw [show b2i (decide (K1 = K2 ∧ U1 = U2 ∧ txt p1 = txt w2 ∧ txt p3 = txt x2)) = 0 from b2_f (fun q => of_decide_eq_false (b2_0.mp c267) q.2.2.2)]
                        refine gLoadI 286 X21 hx (H at_284) rfl rfl ?_
                        refine gIcmpNeT X21 hx (H at_286) (pc' := 305) (by decide) (by decide) (pn := 289) rfl (fun (c286 : ¬ (0 : Int) = (0 : Int)) => ?_) (fun (c286 : (0 : Int) = (0 : Int)) => ?_)
                        · exact absurd c286 (by decide)
                        · refine gLoadA 291 X21 hx (H at_289) rfl rfl rfl ?_
                          refine gLoadA 293 X21 hx (H at_291) rfl rfl rfl ?_
                          refine gCallVJ X21 hx hZ (y := mn1) hown e21 (by rw [hml]; rfl) Eq12 (ow hw 84 rfl) (ow hw 85 rfl) (ow hw 87 rfl) (ow hw 86 rfl) (ow hw 41 rfl) (ow hw 88 rfl) (by decide) (argsL := [(.ref b5)]) (st := []) (c_feq l Z a0 hw b9 b5 K2 U2 r3 r4 K1 U1 r1 r2 (txt w2) (txt p1) (txt x2) (txt p3) T12.heap f12_0 (txt_len _) (txt_rg _) ⟨t3, ct3, f12_21, f12_22, f12_23, f12_24⟩ (txt_len _) (txt_rg _) ⟨t1, ct1, f12_13, f12_14, f12_15, f12_16⟩ (txt_len _) (txt_rg _) ⟨t4, ct4, f12_25, f12_26, f12_27, f12_28⟩ (txt_len _) (txt_rg _) ⟨t2, ct2, f12_17, f12_18, f12_19, f12_20⟩ (fun q => absurd q (Ne.symm nr_r1_3)) (fun q => absurd q (Ne.symm nr_r2_4)) Eq12 G12_kind G12_subject G12_subjectValue G12_explanation f12_29 f12_30 f12_31 f12_32 f12_33) (lenOf pd_7 rfl) (H at_293) (pc' := 296) rfl rfl rfl rfl (by decide) (W := 0) (Nat.le_of_eq rfl) (by decide) (by decide) (by decide) ?_
                          intro T22 X22 e22
                          rw [show b2i (decide (K2 = K1 ∧ U2 = U1 ∧ txt w2 = txt p1 ∧ txt x2 = txt p3)) = 0 from b2_f (fun q => of_decide_eq_false (b2_0.mp c267) q.2.2.2.symm)]
                          refine gLoadI 298 X22 hx (H at_296) rfl rfl ?_
                          refine gIcmpNeT X22 hx (H at_298) (pc' := 305) (by decide) (by decide) (pn := 301) rfl (fun (c298 : ¬ (0 : Int) = (0 : Int)) => ?_) (fun (c298 : (0 : Int) = (0 : Int)) => ?_)
                          · exact absurd c298 (by decide)
                          · refine gIconst 302 X22 hx (v := (1 : Int32)) (H at_301) rfl rfl ?_
                            refine gGoto X22 hx (H at_302) (pc' := 306) (by decide) (by decide) ?_
                            exact gRetHN X22 hx hlk hret (by simp) (H at_306) (w := (1 : Int32)) rfl e22 hS (Nat.le_refl _) hZ hEL H12 (by decide) (by decide) (⟨rfl, N12⟩)
                      · refine gIconst 271 X20 hx (v := (1 : Int32)) (H at_270) rfl rfl ?_
                        refine gGoto X20 hx (H at_271) (pc' := 275) (by decide) (by decide) ?_
                        refine gStoreI 277 X20 hx (H at_275) (l' := #[.val (.int p0), .val (.long p1), .second, .val (.long p2), .second, .val (.long p3), .second, .val (.long p4), .second, .val (.int k1), .val (.int k2), .val (.int s1), .val (.int s2), .val (.long w2), .second, .val (.long x2), .second, .val (.int md), .val (.ref r1), .val (.ref r2), .val (.ref r3), .val (.ref r4), .val (.ref b5), .val (.ref b9), .val (.int (1 : Int32))]) rfl rfl ?_
                        refine gLoadA 279 X20 hx (H at_277) rfl rfl rfl ?_
                        refine gLoadA 281 X20 hx (H at_279) rfl rfl rfl ?_
                        refine gCallVJ X20 hx hZ (y := mn1) hown e20 (by rw [hml]; rfl) f12_29 (ow hw 84 rfl) (ow hw 85 rfl) (ow hw 87 rfl) (ow hw 86 rfl) (ow hw 41 rfl) (ow hw 88 rfl) (by decide) (argsL := [(.ref b9)]) (st := []) (c_feq l Z a0 hw b5 b9 K1 U1 r1 r2 K2 U2 r3 r4 (txt p1) (txt w2) (txt p3) (txt x2) T12.heap f12_0 (txt_len _) (txt_rg _) ⟨t1, ct1, f12_13, f12_14, f12_15, f12_16⟩ (txt_len _) (txt_rg _) ⟨t3, ct3, f12_21, f12_22, f12_23, f12_24⟩ (txt_len _) (txt_rg _) ⟨t2, ct2, f12_17, f12_18, f12_19, f12_20⟩ (txt_len _) (txt_rg _) ⟨t4, ct4, f12_25, f12_26, f12_27, f12_28⟩ (fun q => absurd q nr_r1_3) (fun q => absurd q nr_r2_4) f12_29 f12_30 f12_31 f12_32 f12_33 Eq12 G12_kind G12_subject G12_subjectValue G12_explanation) (lenOf pd_7 rfl) (H at_281) (pc' := 284) rfl rfl rfl rfl (by decide) (W := 0) (Nat.le_of_eq rfl) (by decide) (by decide) (by decide) ?_
                        intro T23 X23 e23
                        rw [show b2i (decide (K1 = K2 ∧ U1 = U2 ∧ txt p1 = txt w2 ∧ txt p3 = txt x2)) = 1 from b2_t ⟨(show K1 = K2 from by rw [qK1, qK2, c241]), (show U1 = U2 from by rw [qU1, qU2, c248]), (of_decide_eq_true (b2_n0.mp c257)), (of_decide_eq_true (b2_n0.mp c267))⟩]
                        refine gLoadI 286 X23 hx (H at_284) rfl rfl ?_
                        refine gIcmpNeT X23 hx (H at_286) (pc' := 305) (by decide) (by decide) (pn := 289) rfl (fun (c286 : ¬ (1 : Int) = (1 : Int)) => ?_) (fun (c286 : (1 : Int) = (1 : Int)) => ?_)
                        · exact absurd c286 (by decide)
                        · refine gLoadA 291 X23 hx (H at_289) rfl rfl rfl ?_
                          refine gLoadA 293 X23 hx (H at_291) rfl rfl rfl ?_
                          refine gCallVJ X23 hx hZ (y := mn1) hown e23 (by rw [hml]; rfl) Eq12 (ow hw 84 rfl) (ow hw 85 rfl) (ow hw 87 rfl) (ow hw 86 rfl) (ow hw 41 rfl) (ow hw 88 rfl) (by decide) (argsL := [(.ref b5)]) (st := []) (c_feq l Z a0 hw b9 b5 K2 U2 r3 r4 K1 U1 r1 r2 (txt w2) (txt p1) (txt x2) (txt p3) T12.heap f12_0 (txt_len _) (txt_rg _) ⟨t3, ct3, f12_21, f12_22, f12_23, f12_24⟩ (txt_len _) (txt_rg _) ⟨t1, ct1, f12_13, f12_14, f12_15, f12_16⟩ (txt_len _) (txt_rg _) ⟨t4, ct4, f12_25, f12_26, f12_27, f12_28⟩ (txt_len _) (txt_rg _) ⟨t2, ct2, f12_17, f12_18, f12_19, f12_20⟩ (fun q => absurd q (Ne.symm nr_r1_3)) (fun q => absurd q (Ne.symm nr_r2_4)) Eq12 G12_kind G12_subject G12_subjectValue G12_explanation f12_29 f12_30 f12_31 f12_32 f12_33) (lenOf pd_7 rfl) (H at_293) (pc' := 296) rfl rfl rfl rfl (by decide) (W := 0) (Nat.le_of_eq rfl) (by decide) (by decide) (by decide) ?_
                          intro T24 X24 e24
                          rw [show b2i (decide (K2 = K1 ∧ U2 = U1 ∧ txt w2 = txt p1 ∧ txt x2 = txt p3)) = 1 from b2_t ⟨(show K1 = K2 from by rw [qK1, qK2, c241]).symm, (show U1 = U2 from by rw [qU1, qU2, c248]).symm, (of_decide_eq_true (b2_n0.mp c257)).symm, (of_decide_eq_true (b2_n0.mp c267)).symm⟩]
                          refine gLoadI 298 X24 hx (H at_296) rfl rfl ?_
                          refine gIcmpNeT X24 hx (H at_298) (pc' := 305) (by decide) (by decide) (pn := 301) rfl (fun (c298 : ¬ (1 : Int) = (1 : Int)) => ?_) (fun (c298 : (1 : Int) = (1 : Int)) => ?_)
                          · exact absurd c298 (by decide)
                          · refine gIconst 302 X24 hx (v := (1 : Int32)) (H at_301) rfl rfl ?_
                            refine gGoto X24 hx (H at_302) (pc' := 306) (by decide) (by decide) ?_
                            exact gRetHN X24 hx hlk hret (by simp) (H at_306) (w := (1 : Int32)) rfl e24 hS (Nat.le_refl _) hZ hEL H12 (by decide) (by decide) (⟨rfl, N12⟩)
              · refine gLoadA 231 X12 hx (H at_229) rfl rfl rfl ?_
                refine gLoadA 233 X12 hx (H at_231) rfl rfl rfl ?_
                refine gCallVJ X12 hx hZ (y := mn1) hown rfl (by rw [hml]; rfl) f12_29 (ow hw 84 rfl) (ow hw 85 rfl) (ow hw 87 rfl) (ow hw 86 rfl) (ow hw 41 rfl) (ow hw 88 rfl) (by decide) (argsL := [(.ref b5)]) (st := []) (c_feq l Z a0 hw b5 b5 K1 U1 r1 r2 K1 U1 r1 r2 (txt p1) (txt p1) (txt p3) (txt p3) T12.heap f12_0 (txt_len _) (txt_rg _) ⟨t1, ct1, f12_13, f12_14, f12_15, f12_16⟩ (txt_len _) (txt_rg _) ⟨t1, ct1, f12_13, f12_14, f12_15, f12_16⟩ (txt_len _) (txt_rg _) ⟨t2, ct2, f12_17, f12_18, f12_19, f12_20⟩ (txt_len _) (txt_rg _) ⟨t2, ct2, f12_17, f12_18, f12_19, f12_20⟩ (fun _ => rfl) (fun _ => rfl) f12_29 f12_30 f12_31 f12_32 f12_33 f12_29 f12_30 f12_31 f12_32 f12_33) (lenOf pd_7 rfl) (H at_233) (pc' := 236) rfl rfl rfl rfl (by decide) (W := 0) (Nat.le_of_eq rfl) (by decide) (by decide) (by decide) ?_
                intro T25 X25 e25
                rw [show b2i (decide (K1 = K1 ∧ U1 = U1 ∧ txt p1 = txt p1 ∧ txt p3 = txt p3)) = 1 from b2_t ⟨rfl, rfl, rfl, rfl⟩]
                exact gRetHN X25 hx hlk hret (by simp) (H at_236) (w := (1 : Int32)) rfl e25 hS (Nat.le_refl _) hZ hEL H12 (by decide) (by decide) (⟨rfl, N12⟩)
            · refine gLoadA 209 X12 hx (H at_207) rfl rfl rfl ?_
              refine gLoadA 211 X12 hx (H at_209) rfl rfl rfl ?_
              refine gCallVJ X12 hx hZ (y := mn1) hown rfl (by rw [hml]; rfl) f12_29 (ow hw 84 rfl) (ow hw 85 rfl) (ow hw 87 rfl) (ow hw 86 rfl) (ow hw 41 rfl) (ow hw 88 rfl) (by decide) (argsL := [(.ref r1)]) (st := []) (c_feqS l Z a0 hw b5 r1 T12.heap f12_13) (lenOf pd_7 rfl) (H at_211) (pc' := 214) rfl rfl rfl rfl (by decide) (W := 0) (Nat.le_of_eq rfl) (by decide) (by decide) (by decide) ?_
              intro T26 X26 e26
              refine gIfNeT X26 hx (H at_214) (pc' := 221) (by decide) (by decide) (pn := 217) rfl (fun (c214 : ¬ (0 : Int) = (0 : Int)) => ?_) (fun (c214 : (0 : Int) = (0 : Int)) => ?_)
              · exact absurd c214 (by decide)
              · refine gIconst 218 X26 hx (v := (1 : Int32)) (H at_217) rfl rfl ?_
                refine gGoto X26 hx (H at_218) (pc' := 222) (by decide) (by decide) ?_
                exact gRetHN X26 hx hlk hret (by simp) (H at_222) (w := (1 : Int32)) rfl e26 hS (Nat.le_refl _) hZ hEL H12 (by decide) (by decide) (⟨rfl, N12⟩)
          · refine gLoadA 188 X12 hx (H at_186) rfl rfl rfl ?_
            refine gNull 189 X12 hx (H at_188) rfl ?_
            refine gCallVJ X12 hx hZ (y := mn1) hown rfl (by rw [hml]; rfl) f12_29 (ow hw 84 rfl) (ow hw 85 rfl) (ow hw 87 rfl) (ow hw 86 rfl) (ow hw 41 rfl) (ow hw 88 rfl) (by decide) (argsL := [.null]) (st := []) (c_feq0 l Z a0 hw b5 T12.heap) (lenOf pd_7 rfl) (H at_189) (pc' := 192) rfl rfl rfl rfl (by decide) (W := 0) (Nat.le_of_eq rfl) (by decide) (by decide) (by decide) ?_
            intro T27 X27 e27
            refine gIfNeT X27 hx (H at_192) (pc' := 199) (by decide) (by decide) (pn := 195) rfl (fun (c192 : ¬ (0 : Int) = (0 : Int)) => ?_) (fun (c192 : (0 : Int) = (0 : Int)) => ?_)
            · exact absurd c192 (by decide)
            · refine gIconst 196 X27 hx (v := (1 : Int32)) (H at_195) rfl rfl ?_
              refine gGoto X27 hx (H at_196) (pc' := 200) (by decide) (by decide) ?_
              exact gRetHN X27 hx hlk hret (by simp) (H at_200) (w := (1 : Int32)) rfl e27 hS (Nat.le_refl _) hZ hEL H12 (by decide) (by decide) (⟨rfl, N12⟩)
        refine gIfEqT X0 hx (H at_87) (pc' := 95) (by decide) (by decide) (pn := 90) rfl (fun (c87 : (((p0.toUInt32 >>> ((13 : Int32) &&& 31).toUInt32).toInt32) &&& (1 : Int32)).toInt = (0 : Int)) => ?_) (fun (c87 : ¬ (((p0.toUInt32 >>> ((13 : Int32) &&& 31).toUInt32).toInt32) &&& (1 : Int32)).toInt = (0 : Int)) => ?_)
        · refine gLoadJ 97 X0 hx (H at_95) rfl rfl ?_
          exact J97 _
        · refine gLoadJ 92 X0 hx (H at_90) rfl rfl ?_
          refine gGoto X0 hx (H at_92) (pc' := 97) (by decide) (by decide) ?_
          exact J97 _
      refine gIfEqT X0 hx (H at_71) (pc' := 78) (by decide) (by decide) (pn := 74) rfl (fun (c71 : (((p0.toUInt32 >>> ((12 : Int32) &&& 31).toUInt32).toInt32) &&& (1 : Int32)).toInt = (0 : Int)) => ?_) (fun (c71 : ¬ (((p0.toUInt32 >>> ((12 : Int32) &&& 31).toUInt32).toInt32) &&& (1 : Int32)).toInt = (0 : Int)) => ?_)
      · refine gLoadJN 79 X0 hx (H at_78) rfl rfl ?_
        exact J79 _
      · refine gLoadJN 75 X0 hx (H at_74) rfl rfl ?_
        refine gGoto X0 hx (H at_75) (pc' := 79) (by decide) (by decide) ?_
        exact J79 _
    refine gIfEqT X0 hx (H at_46) (pc' := 54) (by decide) (by decide) (pn := 49) rfl (fun (c46 : (((p0.toUInt32 >>> ((15 : Int32) &&& 31).toUInt32).toInt32) &&& (1 : Int32)).toInt = (0 : Int)) => ?_) (fun (c46 : ¬ (((p0.toUInt32 >>> ((15 : Int32) &&& 31).toUInt32).toInt32) &&& (1 : Int32)).toInt = (0 : Int)) => ?_)
    · refine gLoadIN 55 X0 hx (H at_54) rfl rfl ?_
      refine gBipush 57 X0 hx (v := (7 : Int32)) (H at_55) rfl rfl ?_
      refine gIushr 58 X0 hx (H at_57) rfl ?_
      refine gBipush 60 X0 hx (v := (7 : Int32)) (H at_58) rfl rfl ?_
      refine gIand 61 X0 hx (H at_60) rfl ?_
      refine gIconst 62 X0 hx (v := (5 : Int32)) (H at_61) rfl rfl ?_
      refine gIrem 63 X0 hx (H at_62) (by decide) rfl ?_
      exact J63 _ (own_r5 _)
    · refine gLoadI 51 X0 hx (H at_49) rfl rfl ?_
      refine gGoto X0 hx (H at_51) (pc' := 63) (by decide) (by decide) ?_
      exact J63 _ hs1
  refine gIfEqT X0 hx (H at_13) (pc' := 21) (by decide) (by decide) (pn := 16) rfl (fun (c13 : (((p0.toUInt32 >>> ((14 : Int32) &&& 31).toUInt32).toInt32) &&& (1 : Int32)).toInt = (0 : Int)) => ?_) (fun (c13 : ¬ (((p0.toUInt32 >>> ((14 : Int32) &&& 31).toUInt32).toInt32) &&& (1 : Int32)).toInt = (0 : Int)) => ?_)
  · refine gLoadIN 22 X0 hx (H at_21) rfl rfl ?_
    refine gIconst 23 X0 hx (v := (2 : Int32)) (H at_22) rfl rfl ?_
    refine gIushr 24 X0 hx (H at_23) rfl ?_
    refine gIconst 25 X0 hx (v := (3 : Int32)) (H at_24) rfl rfl ?_
    refine gIand 26 X0 hx (H at_25) rfl ?_
    refine gIconst 27 X0 hx (v := (3 : Int32)) (H at_26) rfl rfl ?_
    refine gIrem 28 X0 hx (H at_27) (by decide) rfl ?_
    exact J28 _ (own_r3 _)
  · refine gLoadI 18 X0 hx (H at_16) rfl rfl ?_
    refine gGoto X0 hx (H at_18) (pc' := 28) (by decide) (by decide) ?_
    exact J28 _ hk1
theorem eq_v0 {args : Array Value} {s : State} {t : Term} {z k : Int32} (h : t.eval args s none [] s = some (.int z)) : (Jvm.Cond.eq t (.int k)).value args s none s [] = some (decide (z = k)) := by
  simp [Cond.value, h, Term.eval]

theorem comes_1 {Post : Tables → Env → Array Value → State → Outcome → State → Prop} (hpost : ∀ tb e args s v u, (limb_1_1.after args s (.returned v) u = true ∧ limb_1_2.after args s (.returned v) u = true ∧ True) → ReturnedEndW s (.returned v) u (Jvm.fieldLocs frame_1_writes args s ++ Jvm.arrayLocs frame_1_arrays args s ++ Jvm.staticLocs frame_1_statics s) 48 5312 → Post tb e args s (.returned v) u) :
    ArmFor flags0 classFile x code maxLocals ret World_1 tables_1 room_1 Calls_1 rest_1 Pre_1 Post := by
  intro l hfl _ _ p e ha hc hk s m args below hf hA hF happ hP
  obtain ⟨hcalls, hrest, hpre⟩ := hP
  obtain ⟨-, -, -, hnamed, -, -, -, hat⟩ := (Spec.applies_iff hf).mp happ
  obtain ⟨hg, hn⟩ := and_e (Cond.before_iff.mp (show (Jvm.Cond.and given_1 narrow_1).before args s = true from hpre))
  obtain ⟨hcount, hv⟩ := and_e hg
  obtain ⟨ha0, hv0⟩ := and_e hv
  obtain ⟨ha1, hv1⟩ := and_e hv0
  obtain ⟨ha2, hv2⟩ := and_e hv1
  obtain ⟨ha3, hv3⟩ := and_e hv2
  obtain ⟨w0, w1, w2, w3, w4, rfl⟩ : ∃ w0 w1 w2 w3 w4 : Value, args = #[w0, w1, w2, w3, w4] := by
    have hs : args.size = 5 := by simpa [Cond.value, given_1] using hcount
    obtain ⟨L⟩ := args
    match L, hs with
    | [w0, w1, w2, w3, w4], _ => exact ⟨w0, w1, w2, w3, w4, rfl⟩
  have hw := fun d (hd : d ∈ tables_1) => atoms_spec (ws := Jvm.Cond.code x code maxLocals ret :: tables_1) hat d (List.mem_cons_of_mem _ hd)
  have hfit : Fit s := fun {y c} hc i hi => by
    obtain ⟨ha, rfl⟩ := Array.getElem?_eq_some_iff.mp hc
    have q := List.all_eq_true.mp ((Array.all_eq_true_iff_forall_mem.mp hF) _ (Array.getElem_mem ha)) i (List.mem_range.mpr hi)
    simpa [Array.getElem?_eq_getElem hi] using q
  obtain ⟨i0, ei0⟩ := is_v ha0
  obtain rfl : w0 = (.int i0) := Option.some.inj ei0
  obtain ⟨i1, ei1⟩ := isL_v ha1
  obtain rfl : w1 = (.long i1) := Option.some.inj ei1
  obtain ⟨i2, ei2⟩ := isL_v ha2
  obtain rfl : w2 = (.long i2) := Option.some.inj ei2
  obtain ⟨i3, ei3⟩ := isL_v ha3
  obtain rfl : w3 = (.long i3) := Option.some.inj ei3
  obtain ⟨i4, ei4⟩ := isL_v hv3
  obtain rfl : w4 = (.long i4) := Option.some.inj ei4
  obtain ⟨hsets, hown0⟩ := atoms_of _ (rest_1_c_eq ▸ (show rest_1_c.before _ s = true from hrest))
  obtain ⟨cz, ecz⟩ := is_v (Cond.before_iff.mp (hsets _ (List.mem_of_getElem? (i := 1) rfl)))
  have SC := Sta.start ecz (Or.inl (hsets _ (List.mem_of_getElem? (i := 0) rfl)))
  have hnz := gotF (eq_v0 ecz (k := 0)) (not_v (Cond.before_iff.mp (hsets _ (List.mem_of_getElem? (i := 2) rfl))))
  have hCpt : Cpt s s.heap := ⟨cz, SC, fun q => hnz (Int32.toInt_inj.mp q)⟩
  have hEL : EW s _ [("com/example/strict_chain/strictchain/Finding", 7), ("com/example/strict_chain/strictchain/Finding", 22), ("com/example/strict_chain/strictchain/Finding", 29), ("com/example/strict_chain/strictchain/Finding", 36), ("java/lang/String", 7)] := (EW.cons (ow hw 58 rfl) (by decide) (EW.cons (ow hw 69 rfl) (by decide) (EW.cons (ow hw 74 rfl) (by decide) (EW.cons (ow hw 78 rfl) (by decide) (EW.cons (ow hw 107 rfl) (by decide) EW.nil)))))
  have hcw : Jvm.Lit.compactW.before _ s = true := (hsets _ (List.mem_of_getElem? (i := 2) rfl))
  have hCH : CHv s [("com/example/strict_chain/strictchain/Finding", 7), ("com/example/strict_chain/strictchain/Finding", 22), ("com/example/strict_chain/strictchain/Finding", 29), ("com/example/strict_chain/strictchain/Finding", 36), ("java/lang/String", 7)] s.vm s.heap := CHv.start hEL (fun p hp => hcalls.1 p hp) hcw (ow hw 28 rfl) (ow hw 10 rfl)
  obtain ⟨n0, m0⟩ := and_e hn
  obtain ⟨n1, m1⟩ := and_e m0
  obtain ⟨n2, m2⟩ := and_e m1
  obtain ⟨n3, m3⟩ := and_e m2
  obtain ⟨n4, m4⟩ := and_e m3
  obtain ⟨n5, m5⟩ := and_e m4
  obtain ⟨n6, m6⟩ := and_e m5
  obtain ⟨n7, m7⟩ := and_e m6
  obtain ⟨n8, m8⟩ := and_e m7
  obtain ⟨n9, m9⟩ := and_e m8
  obtain ⟨n10, m10⟩ := and_e m9
  obtain ⟨n11, m11⟩ := and_e m10
  obtain ⟨n12, m12⟩ := and_e m11
  obtain ⟨n13, m13⟩ := and_e m12
  obtain ⟨n14, m14⟩ := and_e m13
  have n15 := m14
  obtain ⟨a_INVALID, ev_INVALID⟩ := exa_v n0
  have S_INVALID : Sta s s.heap "com/example/strict_chain/strictchain/Finding$Kind" "INVALID" "Lcom/example/strict_chain/strictchain/Finding$Kind;" (.ref a_INVALID) := Sta.start ev_INVALID (Or.inr ⟨(ow hw 46 rfl), (ow hw 47 rfl)⟩)
  have E_INVALID : Exa s s.heap a_INVALID "com/example/strict_chain/strictchain/Finding$Kind" := Exa.start ev_INVALID n0
  obtain ⟨a_FILTER, ev_FILTER⟩ := exa_v n1
  have S_FILTER : Sta s s.heap "com/example/strict_chain/strictchain/Finding$Subject" "FILTER" "Lcom/example/strict_chain/strictchain/Finding$Subject;" (.ref a_FILTER) := Sta.start ev_FILTER (Or.inr ⟨(ow hw 52 rfl), (ow hw 53 rfl)⟩)
  have E_FILTER : Exa s s.heap a_FILTER "com/example/strict_chain/strictchain/Finding$Subject" := Exa.start ev_FILTER n1
  obtain ⟨a_SUSPICIOUS, ev_SUSPICIOUS⟩ := exa_v n2
  have S_SUSPICIOUS : Sta s s.heap "com/example/strict_chain/strictchain/Finding$Kind" "SUSPICIOUS" "Lcom/example/strict_chain/strictchain/Finding$Kind;" (.ref a_SUSPICIOUS) := Sta.start ev_SUSPICIOUS (Or.inr ⟨(ow hw 46 rfl), (ow hw 102 rfl)⟩)
  have E_SUSPICIOUS : Exa s s.heap a_SUSPICIOUS "com/example/strict_chain/strictchain/Finding$Kind" := Exa.start ev_SUSPICIOUS n2
  obtain ⟨a_NOT_PORTABLE, ev_NOT_PORTABLE⟩ := exa_v n5
  have S_NOT_PORTABLE : Sta s s.heap "com/example/strict_chain/strictchain/Finding$Kind" "NOT_PORTABLE" "Lcom/example/strict_chain/strictchain/Finding$Kind;" (.ref a_NOT_PORTABLE) := Sta.start ev_NOT_PORTABLE (Or.inr ⟨(ow hw 46 rfl), (ow hw 104 rfl)⟩)
  have E_NOT_PORTABLE : Exa s s.heap a_NOT_PORTABLE "com/example/strict_chain/strictchain/Finding$Kind" := Exa.start ev_NOT_PORTABLE n5
  obtain ⟨a_ERROR_PAGE, ev_ERROR_PAGE⟩ := exa_v n6
  have S_ERROR_PAGE : Sta s s.heap "com/example/strict_chain/strictchain/Finding$Subject" "ERROR_PAGE" "Lcom/example/strict_chain/strictchain/Finding$Subject;" (.ref a_ERROR_PAGE) := Sta.start ev_ERROR_PAGE (Or.inr ⟨(ow hw 52 rfl), (ow hw 106 rfl)⟩)
  have E_ERROR_PAGE : Exa s s.heap a_ERROR_PAGE "com/example/strict_chain/strictchain/Finding$Subject" := Exa.start ev_ERROR_PAGE n6
  obtain ⟨a_SERVLET_MAPPING, ev_SERVLET_MAPPING⟩ := exa_v n8
  have S_SERVLET_MAPPING : Sta s s.heap "com/example/strict_chain/strictchain/Finding$Subject" "SERVLET_MAPPING" "Lcom/example/strict_chain/strictchain/Finding$Subject;" (.ref a_SERVLET_MAPPING) := Sta.start ev_SERVLET_MAPPING (Or.inr ⟨(ow hw 52 rfl), (ow hw 109 rfl)⟩)
  have E_SERVLET_MAPPING : Exa s s.heap a_SERVLET_MAPPING "com/example/strict_chain/strictchain/Finding$Subject" := Exa.start ev_SERVLET_MAPPING n8
  obtain ⟨a_WELCOME_FILE, ev_WELCOME_FILE⟩ := exa_v n9
  have S_WELCOME_FILE : Sta s s.heap "com/example/strict_chain/strictchain/Finding$Subject" "WELCOME_FILE" "Lcom/example/strict_chain/strictchain/Finding$Subject;" (.ref a_WELCOME_FILE) := Sta.start ev_WELCOME_FILE (Or.inr ⟨(ow hw 52 rfl), (ow hw 111 rfl)⟩)
  have E_WELCOME_FILE : Exa s s.heap a_WELCOME_FILE "com/example/strict_chain/strictchain/Finding$Subject" := Exa.start ev_WELCOME_FILE n9
  obtain ⟨a_SERVLET, ev_SERVLET⟩ := exa_v n10
  have S_SERVLET : Sta s s.heap "com/example/strict_chain/strictchain/Finding$Subject" "SERVLET" "Lcom/example/strict_chain/strictchain/Finding$Subject;" (.ref a_SERVLET) := Sta.start ev_SERVLET (Or.inr ⟨(ow hw 52 rfl), (ow hw 113 rfl)⟩)
  have E_SERVLET : Exa s s.heap a_SERVLET "com/example/strict_chain/strictchain/Finding$Subject" := Exa.start ev_SERVLET n10
  have F_INVALID_ordinal : Fld s s.heap a_INVALID "java/lang/Enum" "ordinal" "I" (.int (0 : Int32)) := Fld.start (own_fv ev_INVALID n3 rfl)
  have F_SUSPICIOUS_ordinal : Fld s s.heap a_SUSPICIOUS "java/lang/Enum" "ordinal" "I" (.int (2 : Int32)) := Fld.start (own_fv ev_SUSPICIOUS n4 rfl)
  have F_NOT_PORTABLE_ordinal : Fld s s.heap a_NOT_PORTABLE "java/lang/Enum" "ordinal" "I" (.int (1 : Int32)) := Fld.start (own_fv ev_NOT_PORTABLE n7 rfl)
  have F_WELCOME_FILE_ordinal : Fld s s.heap a_WELCOME_FILE "java/lang/Enum" "ordinal" "I" (.int (4 : Int32)) := Fld.start (own_fv ev_WELCOME_FILE n11 rfl)
  have F_SERVLET_ordinal : Fld s s.heap a_SERVLET "java/lang/Enum" "ordinal" "I" (.int (1 : Int32)) := Fld.start (own_fv ev_SERVLET n12 rfl)
  have F_FILTER_ordinal : Fld s s.heap a_FILTER "java/lang/Enum" "ordinal" "I" (.int (0 : Int32)) := Fld.start (own_fv ev_FILTER n13 rfl)
  have F_SERVLET_MAPPING_ordinal : Fld s s.heap a_SERVLET_MAPPING "java/lang/Enum" "ordinal" "I" (.int (2 : Int32)) := Fld.start (own_fv ev_SERVLET_MAPPING n14 rfl)
  have F_ERROR_PAGE_ordinal : Fld s s.heap a_ERROR_PAGE "java/lang/Enum" "ordinal" "I" (.int (3 : Int32)) := Fld.start (own_fv ev_ERROR_PAGE n15 rfl)
  have hK : Known s s.heap a_INVALID a_FILTER a_SUSPICIOUS a_NOT_PORTABLE a_ERROR_PAGE a_SERVLET_MAPPING a_WELCOME_FILE a_SERVLET := ⟨S_INVALID, S_FILTER, S_SUSPICIOUS, S_NOT_PORTABLE, S_ERROR_PAGE, S_SERVLET_MAPPING, S_WELCOME_FILE, S_SERVLET, E_INVALID, E_FILTER, E_SUSPICIOUS, E_NOT_PORTABLE, E_ERROR_PAGE, E_SERVLET_MAPPING, E_WELCOME_FILE, E_SERVLET, F_INVALID_ordinal, F_SUSPICIOUS_ordinal, F_NOT_PORTABLE_ordinal, F_WELCOME_FILE_ordinal, F_SERVLET_ordinal, F_FILTER_ordinal, F_SERVLET_MAPPING_ordinal, F_ERROR_PAGE_ordinal⟩
  obtain ⟨n, o, h1, h2, h3, _, L, rfl, ⟨rfl, N⟩, hCH, hq⟩ := c_law l s _ hw i0 i1 i2 i3 i4 a_INVALID a_FILTER a_SUSPICIOUS a_NOT_PORTABLE a_ERROR_PAGE a_SERVLET_MAPPING a_WELCOME_FILE a_SERVLET s.heap hEL hCpt hK p e ha hc hk s m _ below hf ((Spec.applies_iff_loose hf).mp happ).1 ⟨rfl, State.Warmed39.refl s, rfl, hCH, fun _ q => nomatch q⟩ trivial
  refine ⟨n, _, h1, h2, h3, hpost _ _ _ _ _ _ ⟨Cond.after_iff.mpr rfl, Cond.after_iff.mpr (eq_i res_at (Term.int_eval (1)) rfl), trivial⟩ ⟨hq.1, hq.2.1, hq.2.2.1, (hq.2.2.2.sift fun y hy => Or.inr (N y hy)).mono (by decide) (by decide)⟩⟩
theorem main_1_1 : Claimed_1_1 := comes_1 fun _ _ _ _ _ _ h hF => ⟨h.1, hF⟩
theorem main_1_2 : Claimed_1_2 := comes_1 fun _ _ _ _ _ _ h hF => ⟨h.2.1, hF⟩
end Jvm.Pilot.@@N@@
namespace Jvm.Pilot.@@N@@
open Jvm Jvm.ClassFile Sem Op Lib Jvm.Free Jvm.Stand Jvm.Pilot.@@N@@.Jvm.D
/-! MADE BY PROGRAM (witnessworld.py) out of the Statement's table words and the real class files: 24 classes; the members and pool entries that the words name. The judged class is class 1, her method 1. -/
namespace start1
open Jvm.ClassFile
def u (s : String) : CpInfo := .utf8 (stringToUtf16 s)
/-- a pool by its gaps: so many unusable entries, then the entry; so many at the end -/
def gap : Nat → List CpInfo → List CpInfo
  | 0, r => r
  | n + 1, r => .unusable :: gap n r
def poolList (es : List (Nat × CpInfo)) (last : Nat) : List CpInfo := es.foldr (fun e r => gap e.1 (e.2 :: r)) (gap last [])
def pool (es : List (Nat × CpInfo)) (last : Nat) : Array CpInfo := ⟨poolList es last⟩
def fileOf (pool : Array CpInfo) (this : Nat) (attrs : Array Attribute := #[]) (ms : Array MethodInfo := #[]) (fl : Nat := 33) (sup : Nat := 0) (ifs : Array Nat := #[]) (fds : Array FieldInfo := #[]) : ClassFile where
  minorVersion := 0
  majorVersion := 65
  constantPool := pool
  accessFlags := fl
  thisClass := this
  superClass := sup
  interfaces := ifs
  fields := fds
  methods := ms
  attributes := attrs
def plain (name : String) (sup : Option ClassId) : Class where
  name := name
  kind := .ordinary
  loader := none
  accessFlags := 33
  super := sup
  interfaces := #[]
  cf := none
  fields := #[]
  methods := #[]
  instanceTypes := #[]
  staticTypes := #[]
  resolved := #[]
  callSites := []
  init := .initialized
  statics := none
  mirror := none

def pool0 : Array CpInfo := pool [(5, u "<init>"), (0, u "()V"), (1, .class_ 10), (1, u "java/lang/Object")] 113

def k0c0 : Code := { maxStack := 0, maxLocals := 1, code := object_method_1_code, exceptionTable := #[], attributes := #[] }
def k0m0 : Method := { name := "<init>", desc := "()V", sig := { parameters := [], returnType := none }, accessFlags := 1, code := some k0c0 }
/-- java/lang/Object -/
def k0 : Class := { plain "java/lang/Object" none with
  accessFlags := 33
  interfaces := #[]
  cf := some (fileOf pool0 8 #[] #[{ accessFlags := 1, nameIndex := 5, descriptorIndex := 6, attributes := #[] }] 33 0 #[] #[])
  fields := #[]
  methods := #[k0m0]
  instanceTypes := #[]
  staticTypes := #[]
  resolved := Array.replicate 124 none
  statics := none }

def pool1 : Array CpInfo := pool [(2, .class_ 4), (1, u "java/lang/Object"), (0, u "<init>"), (0, u "()V"), (0, .methodref 8 9), (0, .class_ 10), (0, .nameAndType 11 12), (0, u "com/example/strict_chain/strictchain/FindingEqualsPinLaw"), (0, u "text"), (0, u "(J)Ljava/lang/String;"), (0, .class_ 14), (0, u "com/example/strict_chain/strictchain/Finding"), (0, .methodref 8 16), (0, .nameAndType 17 18), (0, u "kind"), (0, u "(I)Lcom/example/strict_chain/strictchain/Finding$Kind;"), (0, .methodref 8 20), (0, .nameAndType 21 22), (0, u "subject"), (0, u "(I)Lcom/example/strict_chain/strictchain/Finding$Subject;"), (0, .methodref 13 24), (0, .nameAndType 5 25), (0, u "(Lcom/example/strict_chain/strictchain/Finding$Kind;Lcom/example/strict_chain/strictchain/Finding$Subject;Ljava/lang/String;Ljava/lang/String;)V"), (0, .methodref 13 27), (0, .nameAndType 28 29), (0, u "equals"), (0, u "(Ljava/lang/Object;)Z"), (0, .methodref 8 31), (0, .nameAndType 32 33), (0, u "sameText"), (0, u "(JJ)Z"), (0, .fieldref 35 36), (0, .class_ 37), (0, .nameAndType 38 39), (0, u "com/example/strict_chain/strictchain/Finding$Kind"), (0, u "INVALID"), (0, u "Lcom/example/strict_chain/strictchain/Finding$Kind;"), (0, .fieldref 35 41), (0, .nameAndType 42 39), (0, u "NOT_PORTABLE"), (0, .fieldref 35 44), (0, .nameAndType 45 39), (0, u "SUSPICIOUS"), (0, .fieldref 47 48), (0, .class_ 49), (0, .nameAndType 50 51), (0, u "com/example/strict_chain/strictchain/Finding$Subject"), (0, u "FILTER"), (0, u "Lcom/example/strict_chain/strictchain/Finding$Subject;"), (0, .fieldref 47 53), (0, .nameAndType 54 51), (0, u "SERVLET"), (0, .fieldref 47 56), (0, .nameAndType 57 51), (0, u "SERVLET_MAPPING"), (0, .fieldref 47 59), (0, .nameAndType 60 51), (0, u "ERROR_PAGE"), (0, .fieldref 47 62), (0, .nameAndType 63 51), (0, u "WELCOME_FILE"), (0, .long 255), (1, .long 3), (1, .methodref 8 69), (0, .nameAndType 70 71), (0, u "ch"), (0, u "(JI)C"), (0, .class_ 73), (0, u "java/lang/String"), (0, .methodref 72 75), (0, .nameAndType 5 76), (0, u "([C)V"), (2, u "law"), (0, u "(IJJJJ)Z")] 6

def k1m0 : Method := { name := "<init>", desc := "()V", sig := { parameters := [], returnType := none }, accessFlags := 1, code := none }
def k1c1 : Code := { maxStack := 6, maxLocals := 25, code := code, exceptionTable := #[], attributes := #[] }
def k1m1 : Method := { name := "law", desc := "(IJJJJ)Z", sig := { parameters := [.int, .long, .long, .long, .long], returnType := some .boolean }, accessFlags := 9, code := some k1c1 }
def k1c2 : Code := { maxStack := 2, maxLocals := 1, code := method_3_code, exceptionTable := #[], attributes := #[] }
def k1m2 : Method := { name := "kind", desc := "(I)Lcom/example/strict_chain/strictchain/Finding$Kind;", sig := { parameters := [.int], returnType := some (.object "com/example/strict_chain/strictchain/Finding$Kind") }, accessFlags := 10, code := some k1c2 }
def k1c3 : Code := { maxStack := 2, maxLocals := 1, code := method_4_code, exceptionTable := #[], attributes := #[] }
def k1m3 : Method := { name := "subject", desc := "(I)Lcom/example/strict_chain/strictchain/Finding$Subject;", sig := { parameters := [.int], returnType := some (.object "com/example/strict_chain/strictchain/Finding$Subject") }, accessFlags := 10, code := some k1c3 }
def k1c4 : Code := { maxStack := 5, maxLocals := 3, code := method_5_code, exceptionTable := #[], attributes := #[] }
def k1m4 : Method := { name := "ch", desc := "(JI)C", sig := { parameters := [.long, .int], returnType := some .char }, accessFlags := 10, code := some k1c4 }
def k1c5 : Code := { maxStack := 6, maxLocals := 6, code := method_6_code, exceptionTable := #[], attributes := #[] }
def k1m5 : Method := { name := "text", desc := "(J)Ljava/lang/String;", sig := { parameters := [.long], returnType := some (.object "java/lang/String") }, accessFlags := 10, code := some k1c5 }
def k1c6 : Code := { maxStack := 5, maxLocals := 6, code := method_7_code, exceptionTable := #[], attributes := #[] }
def k1m6 : Method := { name := "sameText", desc := "(JJ)Z", sig := { parameters := [.long, .long], returnType := some .boolean }, accessFlags := 10, code := some k1c6 }
/-- com/example/strict_chain/strictchain/FindingEqualsPinLaw -/
def k1 : Class := { plain "com/example/strict_chain/strictchain/FindingEqualsPinLaw" (some 0) with
  accessFlags := 49
  interfaces := #[]
  cf := some (fileOf pool1 8 #[] #[{ accessFlags := 1, nameIndex := 5, descriptorIndex := 6, attributes := #[] }, { accessFlags := 9, nameIndex := 79, descriptorIndex := 80, attributes := #[] }, { accessFlags := 10, nameIndex := 17, descriptorIndex := 18, attributes := #[] }, { accessFlags := 10, nameIndex := 21, descriptorIndex := 22, attributes := #[] }, { accessFlags := 10, nameIndex := 70, descriptorIndex := 71, attributes := #[] }, { accessFlags := 10, nameIndex := 11, descriptorIndex := 12, attributes := #[] }, { accessFlags := 10, nameIndex := 32, descriptorIndex := 33, attributes := #[] }] 49 2 #[] #[])
  fields := #[]
  methods := #[k1m0, k1m1, k1m2, k1m3, k1m4, k1m5, k1m6]
  instanceTypes := #[]
  staticTypes := #[]
  resolved := Array.replicate 87 none
  statics := none }

def pool2 : Array CpInfo := pool [(1, .class_ 2), (0, u "java/io/Serializable"), (0, .class_ 4), (0, u "java/lang/Object")] 2

/-- java/io/Serializable -/
def k2 : Class := { plain "java/io/Serializable" (some 0) with
  accessFlags := 1537
  interfaces := #[]
  cf := some (fileOf pool2 1 #[] #[] 1537 3 #[] #[])
  fields := #[]
  methods := #[]
  instanceTypes := #[]
  staticTypes := #[]
  resolved := Array.replicate 7 none
  statics := none }

def pool3 : Array CpInfo := pool [(1, .class_ 2), (0, u "java/lang/Comparable"), (0, .class_ 4), (0, u "java/lang/Object")] 7

/-- java/lang/Comparable -/
def k3 : Class := { plain "java/lang/Comparable" (some 0) with
  accessFlags := 1537
  interfaces := #[]
  cf := some (fileOf pool3 1 #[] #[] 1537 3 #[] #[])
  fields := #[]
  methods := #[]
  instanceTypes := #[]
  staticTypes := #[]
  resolved := Array.replicate 12 none
  statics := none }

def pool4 : Array CpInfo := pool [(2, .class_ 4), (1, u "java/lang/CharSequence"), (42, .class_ 48), (0, u "java/lang/CharSequence$1CodePointIterator"), (10, .class_ 60), (0, u "java/lang/CharSequence$1CharIterator"), (5, .class_ 67), (0, u "java/lang/Object")] 63

/-- java/lang/CharSequence -/
def k4 : Class := { plain "java/lang/CharSequence" (some 0) with
  accessFlags := 1537
  interfaces := #[]
  cf := some (fileOf pool4 2 #[.nestMembers #[47, 59]] #[] 1537 66 #[] #[])
  fields := #[]
  methods := #[]
  instanceTypes := #[]
  staticTypes := #[]
  resolved := Array.replicate 131 none
  statics := none }

def pool5 : Array CpInfo := pool [(1, .class_ 2), (0, u "java/lang/constant/Constable"), (0, .class_ 4), (0, u "java/lang/Object")] 6

/-- java/lang/constant/Constable -/
def k5 : Class := { plain "java/lang/constant/Constable" (some 0) with
  accessFlags := 1537
  interfaces := #[]
  cf := some (fileOf pool5 1 #[] #[] 1537 3 #[] #[])
  fields := #[]
  methods := #[]
  instanceTypes := #[]
  staticTypes := #[]
  resolved := Array.replicate 11 none
  statics := none }

def pool6 : Array CpInfo := pool [(1, .class_ 2), (0, u "java/lang/constant/ConstantDesc"), (0, .class_ 4), (0, u "java/lang/Object")] 32

/-- java/lang/constant/ConstantDesc -/
def k6 : Class := { plain "java/lang/constant/ConstantDesc" (some 0) with
  accessFlags := 1537
  interfaces := #[]
  cf := some (fileOf pool6 1 #[] #[] 1537 3 #[] #[])
  fields := #[]
  methods := #[]
  instanceTypes := #[]
  staticTypes := #[]
  resolved := Array.replicate 37 none
  statics := none }

def pool7 : Array CpInfo := pool [(1, .methodref 2 3), (0, .class_ 4), (0, .nameAndType 5 6), (0, u "java/lang/Object"), (0, u "<init>"), (0, u "()V"), (0, .string 8), (0, u ""), (0, .fieldref 10 11), (0, .class_ 12), (0, .nameAndType 13 14), (0, u "java/lang/String"), (0, u "value"), (0, u "[B"), (0, .fieldref 10 16), (0, .nameAndType 17 18), (0, u "coder"), (0, u "B"), (2, u "hash"), (0, u "I"), (2, u "hashIsZero"), (0, u "Z"), (0, .methodref 10 28), (0, .nameAndType 5 29), (0, u "([CIILjava/lang/Void;)V"), (8, .fieldref 10 39), (0, .nameAndType 40 26), (0, u "COMPACT_STRINGS"), (1, .class_ 44), (1, u "java/lang/StringUTF16"), (0, u "compress"), (1, .methodref 42 48), (0, .nameAndType 49 50), (0, u "coderFromArrayLen"), (0, u "([BI)B"), (56, .class_ 109), (1, u "java/lang/StringLatin1"), (67, .methodref 42 178), (0, .nameAndType 45 179), (0, u "([CII)[B"), (361, .methodref 107 542), (0, .nameAndType 543 544), (0, u "equals"), (0, u "([B[B)Z"), (28, u "(Ljava/lang/Object;)Z"), (1, .class_ 576), (0, u "java/lang/CharSequence"), (22, u "CASE_INSENSITIVE_ORDER"), (0, u "Ljava/util/Comparator;"), (409, u "([C)V"), (90, u "serialPersistentFields"), (0, u "[Ljava/io/ObjectStreamField;"), (0, .class_ 1104), (0, u "java/lang/String$CaseInsensitiveComparator"), (1, .class_ 1107), (0, u "java/io/Serializable"), (0, .class_ 1109), (0, u "java/lang/Comparable"), (0, .class_ 1111), (0, u "java/lang/constant/Constable"), (0, .class_ 1113), (0, u "java/lang/constant/ConstantDesc"), (2, u "serialVersionUID"), (0, u "J"), (3, u "REPL"), (0, u "C"), (2, u "LATIN1"), (1, u "UTF16")] 323

def k7m0 : Method := { name := "<init>", desc := "()V", sig := { parameters := [], returnType := none }, accessFlags := 1, code := none }
def k7c1 : Code := { maxStack := 5, maxLocals := 2, code := jdk_42_method_3_code, exceptionTable := #[], attributes := #[] }
def k7m1 : Method := { name := "<init>", desc := "([C)V", sig := { parameters := [(.array .char)], returnType := none }, accessFlags := 1, code := some k7c1 }
def k7c2 : Code := { maxStack := 2, maxLocals := 3, code := jdk_42_method_66_code, exceptionTable := #[], attributes := #[] }
def k7m2 : Method := { name := "equals", desc := "(Ljava/lang/Object;)Z", sig := { parameters := [(.object "java/lang/Object")], returnType := some .boolean }, accessFlags := 1, code := some k7c2 }
def k7c3 : Code := { maxStack := 4, maxLocals := 6, code := jdk_42_method_149_code, exceptionTable := #[], attributes := #[] }
def k7m3 : Method := { name := "<init>", desc := "([CIILjava/lang/Void;)V", sig := { parameters := [(.array .char), .int, .int, (.object "java/lang/Void")], returnType := none }, accessFlags := 2, code := some k7c3 }
/-- java/lang/String -/
def k7 : Class := { plain "java/lang/String" (some 0) with
  accessFlags := 49
  interfaces := #[2, 3, 4, 5, 6]
  cf := some (fileOf pool7 10 #[.nestMembers #[1103]] #[{ accessFlags := 1, nameIndex := 5, descriptorIndex := 6, attributes := #[] }, { accessFlags := 1, nameIndex := 5, descriptorIndex := 1010, attributes := #[] }, { accessFlags := 1, nameIndex := 543, descriptorIndex := 573, attributes := #[] }, { accessFlags := 2, nameIndex := 5, descriptorIndex := 29, attributes := #[] }] 49 2 #[1106, 1108, 575, 1110, 1112] #[{ accessFlags := 18, nameIndex := 13, descriptorIndex := 14, attributes := #[] }, { accessFlags := 18, nameIndex := 17, descriptorIndex := 18, attributes := #[] }, { accessFlags := 2, nameIndex := 21, descriptorIndex := 22, attributes := #[] }, { accessFlags := 2, nameIndex := 25, descriptorIndex := 26, attributes := #[] }, { accessFlags := 26, nameIndex := 1116, descriptorIndex := 1117, attributes := #[] }, { accessFlags := 24, nameIndex := 40, descriptorIndex := 26, attributes := #[] }, { accessFlags := 26, nameIndex := 1101, descriptorIndex := 1102, attributes := #[] }, { accessFlags := 26, nameIndex := 1121, descriptorIndex := 1122, attributes := #[] }, { accessFlags := 25, nameIndex := 599, descriptorIndex := 600, attributes := #[] }, { accessFlags := 24, nameIndex := 1125, descriptorIndex := 18, attributes := #[] }, { accessFlags := 24, nameIndex := 1127, descriptorIndex := 18, attributes := #[] }])
  fields := #[{ name := "value", type := (.array .byte), accessFlags := 18, slot := 0, constantValue := 0 }, { name := "coder", type := .byte, accessFlags := 18, slot := 1, constantValue := 0 }, { name := "hash", type := .int, accessFlags := 2, slot := 2, constantValue := 0 }, { name := "hashIsZero", type := .boolean, accessFlags := 2, slot := 3, constantValue := 0 }, { name := "serialVersionUID", type := .long, accessFlags := 26, slot := 0, constantValue := 0 }, { name := "COMPACT_STRINGS", type := .boolean, accessFlags := 24, slot := 1, constantValue := 0 }, { name := "serialPersistentFields", type := (.array (.object "java/io/ObjectStreamField")), accessFlags := 26, slot := 2, constantValue := 0 }, { name := "REPL", type := .char, accessFlags := 26, slot := 3, constantValue := 0 }, { name := "CASE_INSENSITIVE_ORDER", type := (.object "java/util/Comparator"), accessFlags := 25, slot := 4, constantValue := 0 }, { name := "LATIN1", type := .byte, accessFlags := 24, slot := 5, constantValue := 0 }, { name := "UTF16", type := .byte, accessFlags := 24, slot := 6, constantValue := 0 }]
  methods := #[k7m0, k7m1, k7m2, k7m3]
  instanceTypes := #[(.array .byte), .byte, .int, .boolean]
  staticTypes := #[.long, .boolean, (.array (.object "java/io/ObjectStreamField")), .char, (.object "java/util/Comparator"), .byte, .byte]
  resolved := Array.replicate 1451 none
  statics := some 0 }

def pool8 : Array CpInfo := pool [(6, .class_ 8), (1, u "java/lang/Object"), (0, u "<init>"), (0, u "()V"), (1, .class_ 14), (1, u "java/lang/StringUTF16"), (31, u "$assertionsDisabled"), (0, u "Z"), (13, u "HI_BYTE_SHIFT"), (0, u "I"), (2, u "LO_BYTE_SHIFT"), (49, .methodref 12 116), (0, .nameAndType 117 118), (0, u "compress"), (0, u "([CI[BII)I"), (3, u "([CII)[B"), (138, u "coderFromArrayLen"), (0, u "([BI)B"), (106, .class_ 371), (1, u "java/lang/StringUTF16$LinesSpliterator"), (58, u "MAX_LENGTH"), (196, .class_ 628), (0, u "java/lang/StringUTF16$CodePointsSpliterator"), (0, .class_ 630), (0, u "java/lang/StringUTF16$CharsSpliterator")] 4

def k8m0 : Method := { name := "<init>", desc := "()V", sig := { parameters := [], returnType := none }, accessFlags := 0, code := none }
def k8c1 : Code := { maxStack := 2, maxLocals := 2, code := jdk_52_method_15_code, exceptionTable := #[], attributes := #[] }
def k8m1 : Method := { name := "coderFromArrayLen", desc := "([BI)B", sig := { parameters := [(.array .byte), .int], returnType := some .byte }, accessFlags := 8, code := some k8c1 }
def k8c2 : Code := { maxStack := 5, maxLocals := 6, code := jdk_52_method_16_code, exceptionTable := #[], attributes := #[] }
def k8m2 : Method := { name := "compress", desc := "([CII)[B", sig := { parameters := [(.array .char), .int, .int], returnType := some (.array .byte) }, accessFlags := 9, code := some k8c2 }
def k8c3 : Code := { maxStack := 3, maxLocals := 7, code := jdk_52_method_21_code, exceptionTable := #[], attributes := #[] }
def k8m3 : Method := { name := "compress", desc := "([CI[BII)I", sig := { parameters := [(.array .char), .int, (.array .byte), .int, .int], returnType := some .int }, accessFlags := 9, code := some k8c3 }
/-- java/lang/StringUTF16 -/
def k8 : Class := { plain "java/lang/StringUTF16" (some 0) with
  accessFlags := 48
  interfaces := #[]
  cf := some (fileOf pool8 12 #[.nestMembers #[627, 629, 369]] #[{ accessFlags := 0, nameIndex := 9, descriptorIndex := 10, attributes := #[] }, { accessFlags := 8, nameIndex := 261, descriptorIndex := 262, attributes := #[] }, { accessFlags := 9, nameIndex := 117, descriptorIndex := 122, attributes := #[] }, { accessFlags := 9, nameIndex := 117, descriptorIndex := 118, attributes := #[] }] 48 6 #[] #[{ accessFlags := 26, nameIndex := 61, descriptorIndex := 62, attributes := #[] }, { accessFlags := 26, nameIndex := 65, descriptorIndex := 62, attributes := #[] }, { accessFlags := 24, nameIndex := 430, descriptorIndex := 62, attributes := #[] }, { accessFlags := 4120, nameIndex := 46, descriptorIndex := 47, attributes := #[] }])
  fields := #[{ name := "HI_BYTE_SHIFT", type := .int, accessFlags := 26, slot := 0, constantValue := 0 }, { name := "LO_BYTE_SHIFT", type := .int, accessFlags := 26, slot := 1, constantValue := 0 }, { name := "MAX_LENGTH", type := .int, accessFlags := 24, slot := 2, constantValue := 0 }, { name := "$assertionsDisabled", type := .boolean, accessFlags := 4120, slot := 3, constantValue := 0 }]
  methods := #[k8m0, k8m1, k8m2, k8m3]
  instanceTypes := #[]
  staticTypes := #[.int, .int, .int, .boolean]
  resolved := Array.replicate 635 none
  statics := none }

def pool9 : Array CpInfo := pool [(1, .methodref 2 3), (0, .class_ 4), (0, .nameAndType 5 6), (0, u "java/lang/Object"), (0, u "<init>"), (0, u "()V"), (0, .string 8), (0, u "kind"), (0, .methodref 10 11), (0, .class_ 12), (0, .nameAndType 13 14), (0, u "java/util/Objects"), (0, u "requireNonNull"), (0, u "(Ljava/lang/Object;Ljava/lang/String;)Ljava/lang/Object;"), (0, .class_ 16), (0, u "com/example/strict_chain/strictchain/Finding$Kind"), (0, .fieldref 18 19), (0, .class_ 20), (0, .nameAndType 8 21), (0, u "com/example/strict_chain/strictchain/Finding"), (0, u "Lcom/example/strict_chain/strictchain/Finding$Kind;"), (0, .string 23), (0, u "subject"), (0, .class_ 25), (0, u "com/example/strict_chain/strictchain/Finding$Subject"), (0, .fieldref 18 27), (0, .nameAndType 23 28), (0, u "Lcom/example/strict_chain/strictchain/Finding$Subject;"), (0, .string 30), (0, u "subjectValue"), (0, .class_ 32), (0, u "java/lang/String"), (0, .fieldref 18 34), (0, .nameAndType 30 35), (0, u "Ljava/lang/String;"), (0, .string 37), (0, u "explanation"), (0, .fieldref 18 39), (0, .nameAndType 37 35), (61, .methodref 31 102), (0, .nameAndType 103 104), (0, u "equals"), (0, u "(Ljava/lang/Object;)Z"), (15, u "(Lcom/example/strict_chain/strictchain/Finding$Kind;Lcom/example/strict_chain/strictchain/Finding$Subject;Ljava/lang/String;Ljava/lang/String;)V")] 44

def k9c0 : Code := { maxStack := 3, maxLocals := 5, code := prog_5_method_1_code, exceptionTable := #[], attributes := #[] }
def k9m0 : Method := { name := "<init>", desc := "(Lcom/example/strict_chain/strictchain/Finding$Kind;Lcom/example/strict_chain/strictchain/Finding$Subject;Ljava/lang/String;Ljava/lang/String;)V", sig := { parameters := [(.object "com/example/strict_chain/strictchain/Finding$Kind"), (.object "com/example/strict_chain/strictchain/Finding$Subject"), (.object "java/lang/String"), (.object "java/lang/String")], returnType := none }, accessFlags := 0, code := some k9c0 }
def k9c1 : Code := { maxStack := 2, maxLocals := 3, code := prog_5_method_8_code, exceptionTable := #[], attributes := #[] }
def k9m1 : Method := { name := "equals", desc := "(Ljava/lang/Object;)Z", sig := { parameters := [(.object "java/lang/Object")], returnType := some .boolean }, accessFlags := 1, code := some k9c1 }
/-- com/example/strict_chain/strictchain/Finding -/
def k9 : Class := { plain "com/example/strict_chain/strictchain/Finding" (some 0) with
  accessFlags := 49
  interfaces := #[]
  cf := some (fileOf pool9 18 #[.nestMembers #[24, 15]] #[{ accessFlags := 0, nameIndex := 5, descriptorIndex := 120, attributes := #[] }, { accessFlags := 1, nameIndex := 103, descriptorIndex := 104, attributes := #[] }] 49 2 #[] #[{ accessFlags := 18, nameIndex := 8, descriptorIndex := 21, attributes := #[] }, { accessFlags := 18, nameIndex := 23, descriptorIndex := 28, attributes := #[] }, { accessFlags := 18, nameIndex := 30, descriptorIndex := 35, attributes := #[] }, { accessFlags := 18, nameIndex := 37, descriptorIndex := 35, attributes := #[] }])
  fields := #[{ name := "kind", type := (.object "com/example/strict_chain/strictchain/Finding$Kind"), accessFlags := 18, slot := 0, constantValue := 0 }, { name := "subject", type := (.object "com/example/strict_chain/strictchain/Finding$Subject"), accessFlags := 18, slot := 1, constantValue := 0 }, { name := "subjectValue", type := (.object "java/lang/String"), accessFlags := 18, slot := 2, constantValue := 0 }, { name := "explanation", type := (.object "java/lang/String"), accessFlags := 18, slot := 3, constantValue := 0 }]
  methods := #[k9m0, k9m1]
  instanceTypes := #[(.object "com/example/strict_chain/strictchain/Finding$Kind"), (.object "com/example/strict_chain/strictchain/Finding$Subject"), (.object "java/lang/String"), (.object "java/lang/String")]
  staticTypes := #[]
  resolved := Array.replicate 165 none
  statics := none }

def pool10 : Array CpInfo := pool [(2, .class_ 4), (1, u "java/lang/Enum"), (0, u "name"), (0, u "Ljava/lang/String;"), (2, u "ordinal"), (0, u "I"), (1, .class_ 14), (1, u "java/lang/Object"), (4, u "hash"), (86, .class_ 108), (1, u "java/lang/Enum$EnumDesc"), (2, .class_ 112), (0, u "java/lang/constant/Constable"), (0, .class_ 114), (0, u "java/lang/Comparable"), (0, .class_ 116), (0, u "java/io/Serializable")] 87

/-- java/lang/Enum -/
def k10 : Class := { plain "java/lang/Enum" (some 0) with
  accessFlags := 1057
  interfaces := #[5, 3, 2]
  cf := some (fileOf pool10 2 #[.nestMembers #[106]] #[] 1057 12 #[111, 113, 115] #[{ accessFlags := 18, nameIndex := 5, descriptorIndex := 6, attributes := #[] }, { accessFlags := 18, nameIndex := 9, descriptorIndex := 10, attributes := #[] }, { accessFlags := 2, nameIndex := 19, descriptorIndex := 10, attributes := #[] }])
  fields := #[{ name := "name", type := (.object "java/lang/String"), accessFlags := 18, slot := 0, constantValue := 0 }, { name := "ordinal", type := .int, accessFlags := 18, slot := 1, constantValue := 0 }, { name := "hash", type := .int, accessFlags := 2, slot := 2, constantValue := 0 }]
  methods := #[]
  instanceTypes := #[(.object "java/lang/String"), .int, .int]
  staticTypes := #[]
  resolved := Array.replicate 204 none
  statics := none }

def pool11 : Array CpInfo := pool [(1, .class_ 2), (0, u "com/example/strict_chain/strictchain/Finding$Kind"), (2, u "INVALID"), (0, u "Lcom/example/strict_chain/strictchain/Finding$Kind;"), (2, u "NOT_PORTABLE"), (2, u "SUSPICIOUS"), (2, u "$VALUES"), (0, u "[Lcom/example/strict_chain/strictchain/Finding$Kind;"), (6, .class_ 25), (1, u "java/lang/Enum"), (26, .class_ 53), (0, u "com/example/strict_chain/strictchain/Finding")] 2

/-- com/example/strict_chain/strictchain/Finding$Kind -/
def k11 : Class := { plain "com/example/strict_chain/strictchain/Finding$Kind" (some 10) with
  accessFlags := 16433
  interfaces := #[]
  cf := some (fileOf pool11 1 #[.nestHost 52] #[] 16433 23 #[] #[{ accessFlags := 16409, nameIndex := 5, descriptorIndex := 6, attributes := #[] }, { accessFlags := 16409, nameIndex := 9, descriptorIndex := 6, attributes := #[] }, { accessFlags := 16409, nameIndex := 12, descriptorIndex := 6, attributes := #[] }, { accessFlags := 4122, nameIndex := 15, descriptorIndex := 16, attributes := #[] }])
  fields := #[{ name := "INVALID", type := (.object "com/example/strict_chain/strictchain/Finding$Kind"), accessFlags := 16409, slot := 0, constantValue := 0 }, { name := "NOT_PORTABLE", type := (.object "com/example/strict_chain/strictchain/Finding$Kind"), accessFlags := 16409, slot := 1, constantValue := 0 }, { name := "SUSPICIOUS", type := (.object "com/example/strict_chain/strictchain/Finding$Kind"), accessFlags := 16409, slot := 2, constantValue := 0 }, { name := "$VALUES", type := (.array (.object "com/example/strict_chain/strictchain/Finding$Kind")), accessFlags := 4122, slot := 3, constantValue := 0 }]
  methods := #[]
  instanceTypes := #[(.object "java/lang/String"), .int, .int]
  staticTypes := #[(.object "com/example/strict_chain/strictchain/Finding$Kind"), (.object "com/example/strict_chain/strictchain/Finding$Kind"), (.object "com/example/strict_chain/strictchain/Finding$Kind"), (.array (.object "com/example/strict_chain/strictchain/Finding$Kind"))]
  resolved := Array.replicate 56 none
  statics := some 1 }

def pool12 : Array CpInfo := pool [(1, .class_ 2), (0, u "com/example/strict_chain/strictchain/Finding$Subject"), (2, u "FILTER"), (0, u "Lcom/example/strict_chain/strictchain/Finding$Subject;"), (2, u "SERVLET"), (2, u "SERVLET_MAPPING"), (2, u "ERROR_PAGE"), (2, u "WELCOME_FILE"), (2, u "$VALUES"), (0, u "[Lcom/example/strict_chain/strictchain/Finding$Subject;"), (6, .class_ 31), (1, u "java/lang/Enum"), (28, .class_ 61), (0, u "com/example/strict_chain/strictchain/Finding")] 2

/-- com/example/strict_chain/strictchain/Finding$Subject -/
def k12 : Class := { plain "com/example/strict_chain/strictchain/Finding$Subject" (some 10) with
  accessFlags := 16433
  interfaces := #[]
  cf := some (fileOf pool12 1 #[.nestHost 60] #[] 16433 29 #[] #[{ accessFlags := 16409, nameIndex := 5, descriptorIndex := 6, attributes := #[] }, { accessFlags := 16409, nameIndex := 9, descriptorIndex := 6, attributes := #[] }, { accessFlags := 16409, nameIndex := 12, descriptorIndex := 6, attributes := #[] }, { accessFlags := 16409, nameIndex := 15, descriptorIndex := 6, attributes := #[] }, { accessFlags := 16409, nameIndex := 18, descriptorIndex := 6, attributes := #[] }, { accessFlags := 4122, nameIndex := 21, descriptorIndex := 22, attributes := #[] }])
  fields := #[{ name := "FILTER", type := (.object "com/example/strict_chain/strictchain/Finding$Subject"), accessFlags := 16409, slot := 0, constantValue := 0 }, { name := "SERVLET", type := (.object "com/example/strict_chain/strictchain/Finding$Subject"), accessFlags := 16409, slot := 1, constantValue := 0 }, { name := "SERVLET_MAPPING", type := (.object "com/example/strict_chain/strictchain/Finding$Subject"), accessFlags := 16409, slot := 2, constantValue := 0 }, { name := "ERROR_PAGE", type := (.object "com/example/strict_chain/strictchain/Finding$Subject"), accessFlags := 16409, slot := 3, constantValue := 0 }, { name := "WELCOME_FILE", type := (.object "com/example/strict_chain/strictchain/Finding$Subject"), accessFlags := 16409, slot := 4, constantValue := 0 }, { name := "$VALUES", type := (.array (.object "com/example/strict_chain/strictchain/Finding$Subject")), accessFlags := 4122, slot := 5, constantValue := 0 }]
  methods := #[]
  instanceTypes := #[(.object "java/lang/String"), .int, .int]
  staticTypes := #[(.object "com/example/strict_chain/strictchain/Finding$Subject"), (.object "com/example/strict_chain/strictchain/Finding$Subject"), (.object "com/example/strict_chain/strictchain/Finding$Subject"), (.object "com/example/strict_chain/strictchain/Finding$Subject"), (.object "com/example/strict_chain/strictchain/Finding$Subject"), (.array (.object "com/example/strict_chain/strictchain/Finding$Subject"))]
  resolved := Array.replicate 64 none
  statics := some 2 }

def pool13 : Array CpInfo := pool [(2, .class_ 4), (1, u "java/lang/Object"), (0, u "<init>"), (0, u "()V"), (35, .class_ 44), (1, u "java/util/Objects"), (0, u "requireNonNull"), (48, u "(Ljava/lang/Object;Ljava/lang/String;)Ljava/lang/Object;")] 89

def k13m0 : Method := { name := "<init>", desc := "()V", sig := { parameters := [], returnType := none }, accessFlags := 2, code := none }
def k13c1 : Code := { maxStack := 3, maxLocals := 2, code := jdk_31_method_11_code, exceptionTable := #[], attributes := #[] }
def k13m1 : Method := { name := "requireNonNull", desc := "(Ljava/lang/Object;Ljava/lang/String;)Ljava/lang/Object;", sig := { parameters := [(.object "java/lang/Object"), (.object "java/lang/String")], returnType := some (.object "java/lang/Object") }, accessFlags := 9, code := some k13c1 }
/-- java/util/Objects -/
def k13 : Class := { plain "java/util/Objects" (some 0) with
  accessFlags := 49
  interfaces := #[]
  cf := some (fileOf pool13 42 #[] #[{ accessFlags := 2, nameIndex := 5, descriptorIndex := 6, attributes := #[] }, { accessFlags := 9, nameIndex := 45, descriptorIndex := 94, attributes := #[] }] 49 2 #[] #[])
  fields := #[]
  methods := #[k13m0, k13m1]
  instanceTypes := #[]
  staticTypes := #[]
  resolved := Array.replicate 184 none
  statics := none }

def pool14 : Array CpInfo := pool [(4, .class_ 6), (1, u "java/lang/Object"), (0, u "<init>"), (0, u "()V"), (5, .class_ 16), (1, u "java/lang/StringLatin1"), (104, u "$assertionsDisabled"), (0, u "Z"), (98, .class_ 223), (1, u "java/lang/StringLatin1$LinesSpliterator"), (57, u "equals"), (0, u "([B[B)Z"), (107, .class_ 391), (0, u "java/lang/StringLatin1$CharsSpliterator")] 3

def k14m0 : Method := { name := "<init>", desc := "()V", sig := { parameters := [], returnType := none }, accessFlags := 0, code := none }
def k14c1 : Code := { maxStack := 3, maxLocals := 3, code := jdk_43_method_13_code, exceptionTable := #[], attributes := #[] }
def k14m1 : Method := { name := "equals", desc := "([B[B)Z", sig := { parameters := [(.array .byte), (.array .byte)], returnType := some .boolean }, accessFlags := 9, code := some k14c1 }
/-- java/lang/StringLatin1 -/
def k14 : Class := { plain "java/lang/StringLatin1" (some 0) with
  accessFlags := 48
  interfaces := #[]
  cf := some (fileOf pool14 14 #[.nestMembers #[390, 221]] #[{ accessFlags := 0, nameIndex := 7, descriptorIndex := 8, attributes := #[] }, { accessFlags := 9, nameIndex := 281, descriptorIndex := 282, attributes := #[] }] 48 4 #[] #[{ accessFlags := 4120, nameIndex := 121, descriptorIndex := 122, attributes := #[] }])
  fields := #[{ name := "$assertionsDisabled", type := .boolean, accessFlags := 4120, slot := 0, constantValue := 0 }]
  methods := #[k14m0, k14m1]
  instanceTypes := #[]
  staticTypes := #[.boolean]
  resolved := Array.replicate 395 none
  statics := none }

def pool15 : Array CpInfo := pool [(2, .class_ 4), (1, u "java/lang/Object"), (0, u "<init>"), (0, u "()V"), (17, .class_ 26), (1, u "jdk/internal/util/Preconditions"), (28, .class_ 56), (0, u "jdk/internal/util/Preconditions$4"), (57, .class_ 115), (0, u "jdk/internal/util/Preconditions$1"), (7, u "SIOOBE_FORMATTER"), (0, u "Ljava/util/function/BiFunction;"), (0, .class_ 126), (0, u "jdk/internal/util/Preconditions$2"), (3, u "AIOOBE_FORMATTER"), (0, .class_ 132), (0, u "jdk/internal/util/Preconditions$3"), (3, u "IOOBE_FORMATTER")] 57

def k15m0 : Method := { name := "<init>", desc := "()V", sig := { parameters := [], returnType := none }, accessFlags := 1, code := none }
/-- jdk/internal/util/Preconditions -/
def k15 : Class := { plain "jdk/internal/util/Preconditions" (some 0) with
  accessFlags := 33
  interfaces := #[]
  cf := some (fileOf pool15 24 #[.nestMembers #[55, 131, 125, 114]] #[{ accessFlags := 1, nameIndex := 5, descriptorIndex := 6, attributes := #[] }] 33 2 #[] #[{ accessFlags := 25, nameIndex := 123, descriptorIndex := 124, attributes := #[] }, { accessFlags := 25, nameIndex := 130, descriptorIndex := 124, attributes := #[] }, { accessFlags := 25, nameIndex := 136, descriptorIndex := 124, attributes := #[] }])
  fields := #[{ name := "SIOOBE_FORMATTER", type := (.object "java/util/function/BiFunction"), accessFlags := 25, slot := 0, constantValue := 0 }, { name := "AIOOBE_FORMATTER", type := (.object "java/util/function/BiFunction"), accessFlags := 25, slot := 1, constantValue := 0 }, { name := "IOOBE_FORMATTER", type := (.object "java/util/function/BiFunction"), accessFlags := 25, slot := 2, constantValue := 0 }]
  methods := #[k15m0]
  instanceTypes := #[]
  staticTypes := #[(.object "java/util/function/BiFunction"), (.object "java/util/function/BiFunction"), (.object "java/util/function/BiFunction")]
  resolved := Array.replicate 194 none
  statics := some 3 }

def pool16 : Array CpInfo := pool [(9, u "<init>"), (6, .class_ 18), (1, u "java/lang/Object"), (0, u "()V"), (1, .class_ 23), (1, u "jdk/internal/util/ArraysSupport"), (0, u "LOG2_ARRAY_LONG_INDEX_SCALE"), (0, u "I"), (2, u "U"), (0, u "Ljdk/internal/misc/Unsafe;"), (8, u "BIG_ENDIAN"), (0, u "Z"), (8, u "LOG2_BYTE_BIT_SIZE"), (4, u "LOG2_ARRAY_INT_INDEX_SCALE"), (54, u "JLA"), (0, u "Ljdk/internal/access/JavaLangAccess;"), (11, u "LOG2_ARRAY_BOOLEAN_INDEX_SCALE"), (9, u "LOG2_ARRAY_BYTE_INDEX_SCALE"), (5, u "LOG2_ARRAY_CHAR_INDEX_SCALE"), (5, u "LOG2_ARRAY_SHORT_INDEX_SCALE"), (18, u "LOG2_ARRAY_FLOAT_INDEX_SCALE"), (24, u "LOG2_ARRAY_DOUBLE_INDEX_SCALE"), (89, u "T_BOOLEAN"), (2, u "T_CHAR"), (1, u "T_FLOAT"), (1, u "T_DOUBLE"), (1, u "T_BYTE"), (1, u "T_SHORT"), (1, u "T_INT"), (1, u "T_LONG"), (1, u "SOFT_MAX_ARRAY_LENGTH")] 83

def k16m0 : Method := { name := "<init>", desc := "()V", sig := { parameters := [], returnType := none }, accessFlags := 2, code := none }
/-- jdk/internal/util/ArraysSupport -/
def k16 : Class := { plain "jdk/internal/util/ArraysSupport" (some 0) with
  accessFlags := 33
  interfaces := #[]
  cf := some (fileOf pool16 21 #[] #[{ accessFlags := 2, nameIndex := 9, descriptorIndex := 19, attributes := #[] }] 33 16 #[] #[{ accessFlags := 24, nameIndex := 28, descriptorIndex := 29, attributes := #[] }, { accessFlags := 26, nameIndex := 38, descriptorIndex := 39, attributes := #[] }, { accessFlags := 25, nameIndex := 121, descriptorIndex := 25, attributes := #[] }, { accessFlags := 25, nameIndex := 131, descriptorIndex := 25, attributes := #[] }, { accessFlags := 25, nameIndex := 137, descriptorIndex := 25, attributes := #[] }, { accessFlags := 25, nameIndex := 143, descriptorIndex := 25, attributes := #[] }, { accessFlags := 25, nameIndex := 53, descriptorIndex := 25, attributes := #[] }, { accessFlags := 25, nameIndex := 24, descriptorIndex := 25, attributes := #[] }, { accessFlags := 25, nameIndex := 162, descriptorIndex := 25, attributes := #[] }, { accessFlags := 25, nameIndex := 187, descriptorIndex := 25, attributes := #[] }, { accessFlags := 26, nameIndex := 48, descriptorIndex := 25, attributes := #[] }, { accessFlags := 25, nameIndex := 277, descriptorIndex := 25, attributes := #[] }, { accessFlags := 25, nameIndex := 280, descriptorIndex := 25, attributes := #[] }, { accessFlags := 25, nameIndex := 282, descriptorIndex := 25, attributes := #[] }, { accessFlags := 25, nameIndex := 284, descriptorIndex := 25, attributes := #[] }, { accessFlags := 25, nameIndex := 286, descriptorIndex := 25, attributes := #[] }, { accessFlags := 25, nameIndex := 288, descriptorIndex := 25, attributes := #[] }, { accessFlags := 25, nameIndex := 290, descriptorIndex := 25, attributes := #[] }, { accessFlags := 25, nameIndex := 292, descriptorIndex := 25, attributes := #[] }, { accessFlags := 26, nameIndex := 108, descriptorIndex := 109, attributes := #[] }, { accessFlags := 25, nameIndex := 294, descriptorIndex := 25, attributes := #[] }])
  fields := #[{ name := "U", type := (.object "jdk/internal/misc/Unsafe"), accessFlags := 24, slot := 0, constantValue := 0 }, { name := "BIG_ENDIAN", type := .boolean, accessFlags := 26, slot := 1, constantValue := 0 }, { name := "LOG2_ARRAY_BOOLEAN_INDEX_SCALE", type := .int, accessFlags := 25, slot := 2, constantValue := 0 }, { name := "LOG2_ARRAY_BYTE_INDEX_SCALE", type := .int, accessFlags := 25, slot := 3, constantValue := 0 }, { name := "LOG2_ARRAY_CHAR_INDEX_SCALE", type := .int, accessFlags := 25, slot := 4, constantValue := 0 }, { name := "LOG2_ARRAY_SHORT_INDEX_SCALE", type := .int, accessFlags := 25, slot := 5, constantValue := 0 }, { name := "LOG2_ARRAY_INT_INDEX_SCALE", type := .int, accessFlags := 25, slot := 6, constantValue := 0 }, { name := "LOG2_ARRAY_LONG_INDEX_SCALE", type := .int, accessFlags := 25, slot := 7, constantValue := 0 }, { name := "LOG2_ARRAY_FLOAT_INDEX_SCALE", type := .int, accessFlags := 25, slot := 8, constantValue := 0 }, { name := "LOG2_ARRAY_DOUBLE_INDEX_SCALE", type := .int, accessFlags := 25, slot := 9, constantValue := 0 }, { name := "LOG2_BYTE_BIT_SIZE", type := .int, accessFlags := 26, slot := 10, constantValue := 0 }, { name := "T_BOOLEAN", type := .int, accessFlags := 25, slot := 11, constantValue := 0 }, { name := "T_CHAR", type := .int, accessFlags := 25, slot := 12, constantValue := 0 }, { name := "T_FLOAT", type := .int, accessFlags := 25, slot := 13, constantValue := 0 }, { name := "T_DOUBLE", type := .int, accessFlags := 25, slot := 14, constantValue := 0 }, { name := "T_BYTE", type := .int, accessFlags := 25, slot := 15, constantValue := 0 }, { name := "T_SHORT", type := .int, accessFlags := 25, slot := 16, constantValue := 0 }, { name := "T_INT", type := .int, accessFlags := 25, slot := 17, constantValue := 0 }, { name := "T_LONG", type := .int, accessFlags := 25, slot := 18, constantValue := 0 }, { name := "JLA", type := (.object "jdk/internal/access/JavaLangAccess"), accessFlags := 26, slot := 19, constantValue := 0 }, { name := "SOFT_MAX_ARRAY_LENGTH", type := .int, accessFlags := 25, slot := 20, constantValue := 0 }]
  methods := #[k16m0]
  instanceTypes := #[]
  staticTypes := #[(.object "jdk/internal/misc/Unsafe"), .boolean, .int, .int, .int, .int, .int, .int, .int, .int, .int, .int, .int, .int, .int, .int, .int, .int, .int, (.object "jdk/internal/access/JavaLangAccess"), .int]
  resolved := Array.replicate 378 none
  statics := none }

def pool17 : Array CpInfo := pool [(1, u "java/lang/Cloneable"), (0, .class_ 1), (0, u "java/lang/Object"), (0, .class_ 3)] 3

/-- java/lang/Cloneable -/
def k17 : Class := { plain "java/lang/Cloneable" (some 0) with
  accessFlags := 1537
  interfaces := #[]
  cf := some (fileOf pool17 2 #[] #[] 1537 4 #[] #[])
  fields := #[]
  methods := #[]
  instanceTypes := #[]
  staticTypes := #[]
  resolved := Array.replicate 8 none
  statics := none }

/-- the primitive byte -/
def k18 : Class := { plain "byte" none with kind := .primitive 'B', accessFlags := 0x411 }
/-- [B -/
def k19 : Class := { plain "[B" (some 0) with kind := .array 18 .byte, interfaces := #[17, 2], accessFlags := 1041 }

/-- the primitive char -/
def k20 : Class := { plain "char" none with kind := .primitive 'C', accessFlags := 0x411 }
/-- [C -/
def k21 : Class := { plain "[C" (some 0) with kind := .array 20 .char, interfaces := #[17, 2], accessFlags := 1041 }

/-- the primitive int -/
def k22 : Class := { plain "int" none with kind := .primitive 'I', accessFlags := 0x411 }
/-- [I -/
def k23 : Class := { plain "[I" (some 0) with kind := .array 22 .int, interfaces := #[17, 2], accessFlags := 1041 }

def heap : Heap := #[{ cls := 7, slots := #[.long 0, .int 1, .null, .int 0, .null, .int 0, .int 0], vm := .statics 7 },
  { cls := 11, slots := #[.ref 4, .ref 5, .ref 6, .null], vm := .statics 11 },
  { cls := 12, slots := #[.ref 7, .ref 8, .ref 9, .ref 10, .ref 11, .null], vm := .statics 12 },
  { cls := 15, slots := #[.null, .null, .null], vm := .statics 15 },
  { cls := 11, slots := #[.null, .int 0, .int 0], vm := .none },
  { cls := 11, slots := #[.null, .int 1, .int 0], vm := .none },
  { cls := 11, slots := #[.null, .int 2, .int 0], vm := .none },
  { cls := 12, slots := #[.null, .int 0, .int 0], vm := .none },
  { cls := 12, slots := #[.null, .int 1, .int 0], vm := .none },
  { cls := 12, slots := #[.null, .int 2, .int 0], vm := .none },
  { cls := 12, slots := #[.null, .int 3, .int 0], vm := .none },
  { cls := 12, slots := #[.null, .int 4, .int 0], vm := .none }]
def classes : Array Class := #[k0, k1, k2, k3, k4, k5, k6, k7, k8, k9, k10, k11, k12, k13, k14, k15, k16, k17, k18, k19, k20, k21, k22, k23]
def interned : List (Array UInt16 × Addr) := []
def slotsUsed : Nat := 44
def theMethod : MethodId := ⟨1, 1⟩
def args0 : Array Value := #[.int 5, .long 6, .long 7, .long 8, .long 9]
def aboutOver (below : List Frame) : State where
  vm := { classes := classes, interned := interned.toArray }
  heap := heap
  slotsUsed := slotsUsed
  threads := #[{ frames := .invoking theMethod args0 :: below }]
def below0 : List Frame := [.native { method := ⟨0, 0⟩, args := #[] }]
def about1 : State := aboutOver below0
def p0 : Program := .bare "" "" ""
def e0 : Env := launch0.env 0 0 0
theorem w_frames : about1.frames = Frame.invoking theMethod args0 :: below0 := rfl
set_option maxRecDepth 65536 in
theorem w_args : argsFit about1.vm theMethod args0 = true := by decide +kernel
set_option maxRecDepth 65536 in
theorem w_heap : heapFits about1 = true := by decide +kernel
set_option maxRecDepth 65536 in
theorem w_runnable : about1.curStatus? = some .runnable := by decide +kernel
set_option maxRecDepth 65536 in
theorem w_alone : about1.alone = true := by decide +kernel
set_option maxRecDepth 65536 in
theorem w_named : about1.methodNamed? x = some theMethod := by decide +kernel
set_option maxRecDepth 65536 in
theorem w_hears : about1.hears theMethod below0 = true := by decide +kernel
set_option maxRecDepth 65536 in
theorem w_ripe : about1.ripe theMethod args0 below0 = true := by decide +kernel
theorem w_running : about1.status = .running := rfl
set_option maxRecDepth 65536 in
theorem w_room : about1.hasRoom e0.platform room_1 = true :=
  launch0.hasRoom_least _ room_1 (by decide +kernel) (by decide +kernel) (by decide +kernel) (by decide +kernel) (by decide +kernel) (by decide +kernel)
theorem allAtoms_all (ts : List Jvm.Cond) (a : Array Jvm.Value) (st : Jvm.State) : (allAtoms ts).before a st = ts.all (fun c => c.before a st) := by
  induction ts with
  | nil => rfl
  | cons c t ih =>
    show (Jvm.Cond.and c (allAtoms t)).before a st = _
    rw [Jvm.Cond.before_and, ih, List.all_cons]
def words1 : List Jvm.Cond := Jvm.Cond.code x code maxLocals ret :: tables_1
/-- a 'code' word, met by the world's own term for the bytes: nothing is compared byte by byte -/
theorem code_word {y : MethodName} {bytes : ByteArray} {mx : Nat} {rt : Option FieldType} {a : Array Value} {s : State} {m : MethodId} {meth : Method} {c : Code} (h1 : s.methodNamed? y = some m) (h2 : s.vm.method? m = some meth) (h3 : meth.code = some c) (h4 : c.code = bytes)
    (h5 : (c.maxLocals == mx && c.exceptionTable.isEmpty && decide (c.maxStack ≤ mostOperands) && decide (meth.sig.returnType = rt) && !meth.locks && decide (parseMethodDescriptor y.desc = some meth.sig)) = true) : (Jvm.Cond.code y bytes mx rt).before a s = true := by
  simp only [Bool.and_eq_true, beq_iff_eq, Bool.not_eq_true', decide_eq_true_eq] at h5
  obtain ⟨⟨⟨⟨⟨g1, g2⟩, g3⟩, g4⟩, g5⟩, g6⟩ := h5
  simp [Cond.before, Cond.holds, Cond.value, h1, h2, h3, h4, g1, g2, g3, g4, g5, g6]
def isCode : Jvm.Cond → Bool
  | .code _ _ _ _ => true
  | _ => false
theorem all_split {L : List Jvm.Cond} {P : Jvm.Cond → Bool} (h1 : L.all (fun c => isCode c || P c) = true) (h2 : ∀ c ∈ L.filter isCode, P c = true) : L.all P = true := by
  refine List.all_eq_true.mpr fun c hc => ?_
  have h := List.all_eq_true.mp h1 c hc
  rcases Bool.eq_false_or_eq_true (isCode c) with hi | hi
  · exact h2 c (List.mem_filter.mpr ⟨hc, hi⟩)
  · simpa [hi] using h
set_option maxRecDepth 65536 in
theorem w_c0 : (Jvm.Cond.code x code maxLocals ret).before args0 about1 = true := code_word (m := ⟨1, 1⟩) (meth := k1m1) (c := k1c1) (by decide +kernel) rfl rfl rfl (by decide +kernel)
set_option maxRecDepth 65536 in
theorem w_c1 : (Jvm.Cond.code ({ cls := "com/example/strict_chain/strictchain/FindingEqualsPinLaw", name := "text", desc := "(J)Ljava/lang/String;" } : Jvm.MethodName) method_6_code (6 : Nat) (Option.some (Jvm.ClassFile.FieldType.object "java/lang/String"))).before args0 about1 = true := code_word (m := ⟨1, 5⟩) (meth := k1m5) (c := k1c5) (by decide +kernel) rfl rfl rfl (by decide +kernel)
set_option maxRecDepth 65536 in
theorem w_c2 : (Jvm.Cond.code ({ cls := "com/example/strict_chain/strictchain/FindingEqualsPinLaw", name := "ch", desc := "(JI)C" } : Jvm.MethodName) method_5_code (3 : Nat) (Option.some Jvm.ClassFile.FieldType.char)).before args0 about1 = true := code_word (m := ⟨1, 4⟩) (meth := k1m4) (c := k1c4) (by decide +kernel) rfl rfl rfl (by decide +kernel)
set_option maxRecDepth 65536 in
theorem w_c3 : (Jvm.Cond.code ({ cls := "java/lang/String", name := "<init>", desc := "([C)V" } : Jvm.MethodName) jdk_42_method_3_code (2 : Nat) (Option.none : Option Jvm.ClassFile.FieldType)).before args0 about1 = true := code_word (m := ⟨7, 1⟩) (meth := k7m1) (c := k7c1) (by decide +kernel) rfl rfl rfl (by decide +kernel)
set_option maxRecDepth 65536 in
theorem w_c4 : (Jvm.Cond.code ({ cls := "java/lang/String", name := "<init>", desc := "([CIILjava/lang/Void;)V" } : Jvm.MethodName) jdk_42_method_149_code (6 : Nat) (Option.none : Option Jvm.ClassFile.FieldType)).before args0 about1 = true := code_word (m := ⟨7, 3⟩) (meth := k7m3) (c := k7c3) (by decide +kernel) rfl rfl rfl (by decide +kernel)
set_option maxRecDepth 65536 in
theorem w_c5 : (Jvm.Cond.code ({ cls := "java/lang/Object", name := "<init>", desc := "()V" } : Jvm.MethodName) object_method_1_code (1 : Nat) (Option.none : Option Jvm.ClassFile.FieldType)).before args0 about1 = true := code_word (m := ⟨0, 0⟩) (meth := k0m0) (c := k0c0) (by decide +kernel) rfl rfl rfl (by decide +kernel)
set_option maxRecDepth 65536 in
theorem w_c6 : (Jvm.Cond.code ({ cls := "java/lang/StringUTF16", name := "compress", desc := "([CII)[B" } : Jvm.MethodName) jdk_52_method_16_code (6 : Nat) (Option.some (Jvm.ClassFile.FieldType.array Jvm.ClassFile.FieldType.byte))).before args0 about1 = true := code_word (m := ⟨8, 2⟩) (meth := k8m2) (c := k8c2) (by decide +kernel) rfl rfl rfl (by decide +kernel)
set_option maxRecDepth 65536 in
theorem w_c7 : (Jvm.Cond.code ({ cls := "java/lang/StringUTF16", name := "compress", desc := "([CI[BII)I" } : Jvm.MethodName) jdk_52_method_21_code (7 : Nat) (Option.some Jvm.ClassFile.FieldType.int)).before args0 about1 = true := code_word (m := ⟨8, 3⟩) (meth := k8m3) (c := k8c3) (by decide +kernel) rfl rfl rfl (by decide +kernel)
set_option maxRecDepth 65536 in
theorem w_c8 : (Jvm.Cond.code ({ cls := "java/lang/StringUTF16", name := "coderFromArrayLen", desc := "([BI)B" } : Jvm.MethodName) jdk_52_method_15_code (2 : Nat) (Option.some Jvm.ClassFile.FieldType.byte)).before args0 about1 = true := code_word (m := ⟨8, 1⟩) (meth := k8m1) (c := k8c1) (by decide +kernel) rfl rfl rfl (by decide +kernel)
set_option maxRecDepth 65536 in
theorem w_c9 : (Jvm.Cond.code ({ cls := "com/example/strict_chain/strictchain/FindingEqualsPinLaw", name := "kind", desc := "(I)Lcom/example/strict_chain/strictchain/Finding$Kind;" } : Jvm.MethodName) method_3_code (1 : Nat) (Option.some (Jvm.ClassFile.FieldType.object "com/example/strict_chain/strictchain/Finding$Kind"))).before args0 about1 = true := code_word (m := ⟨1, 2⟩) (meth := k1m2) (c := k1c2) (by decide +kernel) rfl rfl rfl (by decide +kernel)
set_option maxRecDepth 65536 in
theorem w_c10 : (Jvm.Cond.code ({ cls := "com/example/strict_chain/strictchain/FindingEqualsPinLaw", name := "subject", desc := "(I)Lcom/example/strict_chain/strictchain/Finding$Subject;" } : Jvm.MethodName) method_4_code (1 : Nat) (Option.some (Jvm.ClassFile.FieldType.object "com/example/strict_chain/strictchain/Finding$Subject"))).before args0 about1 = true := code_word (m := ⟨1, 3⟩) (meth := k1m3) (c := k1c3) (by decide +kernel) rfl rfl rfl (by decide +kernel)
set_option maxRecDepth 65536 in
theorem w_c11 : (Jvm.Cond.code ({ cls := "com/example/strict_chain/strictchain/Finding", name := "<init>", desc := "(Lcom/example/strict_chain/strictchain/Finding$Kind;Lcom/example/strict_chain/strictchain/Finding$Subject;Ljava/lang/String;Ljava/lang/String;)V" } : Jvm.MethodName) prog_5_method_1_code (5 : Nat) (Option.none : Option Jvm.ClassFile.FieldType)).before args0 about1 = true := code_word (m := ⟨9, 0⟩) (meth := k9m0) (c := k9c0) (by decide +kernel) rfl rfl rfl (by decide +kernel)
set_option maxRecDepth 65536 in
theorem w_c12 : (Jvm.Cond.code ({ cls := "java/util/Objects", name := "requireNonNull", desc := "(Ljava/lang/Object;Ljava/lang/String;)Ljava/lang/Object;" } : Jvm.MethodName) jdk_31_method_11_code (2 : Nat) (Option.some (Jvm.ClassFile.FieldType.object "java/lang/Object"))).before args0 about1 = true := code_word (m := ⟨13, 1⟩) (meth := k13m1) (c := k13c1) (by decide +kernel) rfl rfl rfl (by decide +kernel)
set_option maxRecDepth 65536 in
theorem w_c13 : (Jvm.Cond.code ({ cls := "com/example/strict_chain/strictchain/FindingEqualsPinLaw", name := "sameText", desc := "(JJ)Z" } : Jvm.MethodName) method_7_code (6 : Nat) (Option.some Jvm.ClassFile.FieldType.boolean)).before args0 about1 = true := code_word (m := ⟨1, 6⟩) (meth := k1m6) (c := k1c6) (by decide +kernel) rfl rfl rfl (by decide +kernel)
set_option maxRecDepth 65536 in
theorem w_c14 : (Jvm.Cond.code ({ cls := "com/example/strict_chain/strictchain/Finding", name := "equals", desc := "(Ljava/lang/Object;)Z" } : Jvm.MethodName) prog_5_method_8_code (3 : Nat) (Option.some Jvm.ClassFile.FieldType.boolean)).before args0 about1 = true := code_word (m := ⟨9, 1⟩) (meth := k9m1) (c := k9c1) (by decide +kernel) rfl rfl rfl (by decide +kernel)
set_option maxRecDepth 65536 in
theorem w_c15 : (Jvm.Cond.code ({ cls := "java/lang/String", name := "equals", desc := "(Ljava/lang/Object;)Z" } : Jvm.MethodName) jdk_42_method_66_code (3 : Nat) (Option.some Jvm.ClassFile.FieldType.boolean)).before args0 about1 = true := code_word (m := ⟨7, 2⟩) (meth := k7m2) (c := k7c2) (by decide +kernel) rfl rfl rfl (by decide +kernel)
set_option maxRecDepth 65536 in
theorem w_c16 : (Jvm.Cond.code ({ cls := "java/lang/StringLatin1", name := "equals", desc := "([B[B)Z" } : Jvm.MethodName) jdk_43_method_13_code (3 : Nat) (Option.some Jvm.ClassFile.FieldType.boolean)).before args0 about1 = true := code_word (m := ⟨14, 1⟩) (meth := k14m1) (c := k14c1) (by decide +kernel) rfl rfl rfl (by decide +kernel)
def codes1 : List Jvm.Cond := [Jvm.Cond.code x code maxLocals ret, Jvm.Cond.code ({ cls := "com/example/strict_chain/strictchain/FindingEqualsPinLaw", name := "text", desc := "(J)Ljava/lang/String;" } : Jvm.MethodName) method_6_code (6 : Nat) (Option.some (Jvm.ClassFile.FieldType.object "java/lang/String")), Jvm.Cond.code ({ cls := "com/example/strict_chain/strictchain/FindingEqualsPinLaw", name := "ch", desc := "(JI)C" } : Jvm.MethodName) method_5_code (3 : Nat) (Option.some Jvm.ClassFile.FieldType.char), Jvm.Cond.code ({ cls := "java/lang/String", name := "<init>", desc := "([C)V" } : Jvm.MethodName) jdk_42_method_3_code (2 : Nat) (Option.none : Option Jvm.ClassFile.FieldType), Jvm.Cond.code ({ cls := "java/lang/String", name := "<init>", desc := "([CIILjava/lang/Void;)V" } : Jvm.MethodName) jdk_42_method_149_code (6 : Nat) (Option.none : Option Jvm.ClassFile.FieldType), Jvm.Cond.code ({ cls := "java/lang/Object", name := "<init>", desc := "()V" } : Jvm.MethodName) object_method_1_code (1 : Nat) (Option.none : Option Jvm.ClassFile.FieldType), Jvm.Cond.code ({ cls := "java/lang/StringUTF16", name := "compress", desc := "([CII)[B" } : Jvm.MethodName) jdk_52_method_16_code (6 : Nat) (Option.some (Jvm.ClassFile.FieldType.array Jvm.ClassFile.FieldType.byte)), Jvm.Cond.code ({ cls := "java/lang/StringUTF16", name := "compress", desc := "([CI[BII)I" } : Jvm.MethodName) jdk_52_method_21_code (7 : Nat) (Option.some Jvm.ClassFile.FieldType.int), Jvm.Cond.code ({ cls := "java/lang/StringUTF16", name := "coderFromArrayLen", desc := "([BI)B" } : Jvm.MethodName) jdk_52_method_15_code (2 : Nat) (Option.some Jvm.ClassFile.FieldType.byte), Jvm.Cond.code ({ cls := "com/example/strict_chain/strictchain/FindingEqualsPinLaw", name := "kind", desc := "(I)Lcom/example/strict_chain/strictchain/Finding$Kind;" } : Jvm.MethodName) method_3_code (1 : Nat) (Option.some (Jvm.ClassFile.FieldType.object "com/example/strict_chain/strictchain/Finding$Kind")), Jvm.Cond.code ({ cls := "com/example/strict_chain/strictchain/FindingEqualsPinLaw", name := "subject", desc := "(I)Lcom/example/strict_chain/strictchain/Finding$Subject;" } : Jvm.MethodName) method_4_code (1 : Nat) (Option.some (Jvm.ClassFile.FieldType.object "com/example/strict_chain/strictchain/Finding$Subject")), Jvm.Cond.code ({ cls := "com/example/strict_chain/strictchain/Finding", name := "<init>", desc := "(Lcom/example/strict_chain/strictchain/Finding$Kind;Lcom/example/strict_chain/strictchain/Finding$Subject;Ljava/lang/String;Ljava/lang/String;)V" } : Jvm.MethodName) prog_5_method_1_code (5 : Nat) (Option.none : Option Jvm.ClassFile.FieldType), Jvm.Cond.code ({ cls := "java/util/Objects", name := "requireNonNull", desc := "(Ljava/lang/Object;Ljava/lang/String;)Ljava/lang/Object;" } : Jvm.MethodName) jdk_31_method_11_code (2 : Nat) (Option.some (Jvm.ClassFile.FieldType.object "java/lang/Object")), Jvm.Cond.code ({ cls := "com/example/strict_chain/strictchain/FindingEqualsPinLaw", name := "sameText", desc := "(JJ)Z" } : Jvm.MethodName) method_7_code (6 : Nat) (Option.some Jvm.ClassFile.FieldType.boolean), Jvm.Cond.code ({ cls := "com/example/strict_chain/strictchain/Finding", name := "equals", desc := "(Ljava/lang/Object;)Z" } : Jvm.MethodName) prog_5_method_8_code (3 : Nat) (Option.some Jvm.ClassFile.FieldType.boolean), Jvm.Cond.code ({ cls := "java/lang/String", name := "equals", desc := "(Ljava/lang/Object;)Z" } : Jvm.MethodName) jdk_42_method_66_code (3 : Nat) (Option.some Jvm.ClassFile.FieldType.boolean), Jvm.Cond.code ({ cls := "java/lang/StringLatin1", name := "equals", desc := "([B[B)Z" } : Jvm.MethodName) jdk_43_method_13_code (3 : Nat) (Option.some Jvm.ClassFile.FieldType.boolean)]
set_option maxRecDepth 65536 in
theorem codes_eq : words1.filter isCode = codes1 := rfl
theorem w_codes : ∀ c ∈ words1.filter isCode, c.before args0 about1 = true := by
  rw [codes_eq]
  intro c hc
  simp only [codes1, List.mem_cons, List.not_mem_nil, or_false] at hc
  rcases hc with rfl | rfl | rfl | rfl | rfl | rfl | rfl | rfl | rfl | rfl | rfl | rfl | rfl | rfl | rfl | rfl | rfl
  · exact w_c0
  · exact w_c1
  · exact w_c2
  · exact w_c3
  · exact w_c4
  · exact w_c5
  · exact w_c6
  · exact w_c7
  · exact w_c8
  · exact w_c9
  · exact w_c10
  · exact w_c11
  · exact w_c12
  · exact w_c13
  · exact w_c14
  · exact w_c15
  · exact w_c16
set_option maxRecDepth 65536 in
theorem w_t1 : (words1.take 24).all (fun c => isCode c || c.before args0 about1) = true := by decide +kernel
set_option maxRecDepth 65536 in
theorem w_t2 : ((words1.drop 24).take 24).all (fun c => isCode c || c.before args0 about1) = true := by decide +kernel
set_option maxRecDepth 65536 in
theorem w_t3 : (((words1.drop 24).drop 24).take 24).all (fun c => isCode c || c.before args0 about1) = true := by decide +kernel
set_option maxRecDepth 65536 in
theorem w_t4 : ((((words1.drop 24).drop 24).drop 24).take 24).all (fun c => isCode c || c.before args0 about1) = true := by decide +kernel
set_option maxRecDepth 65536 in
theorem w_t5 : ((((words1.drop 24).drop 24).drop 24).drop 24).all (fun c => isCode c || c.before args0 about1) = true := by decide +kernel
theorem w_tables : (allAtoms (Jvm.Cond.code x code maxLocals ret :: tables_1)).before args0 about1 = true := by
  rw [allAtoms_all]
  show words1.all (fun c => c.before args0 about1) = true
  refine all_split ?_ w_codes
  rw [← List.take_append_drop 24 words1, List.all_append, w_t1, ← List.take_append_drop 24 (words1.drop 24), List.all_append, w_t2, ← List.take_append_drop 24 ((words1.drop 24).drop 24), List.all_append, w_t3, ← List.take_append_drop 24 (((words1.drop 24).drop 24).drop 24), List.all_append, w_t4, w_t5]
  rfl
set_option maxRecDepth 65536 in
theorem w_rest : rest_1_c.before args0 about1 = true := by decide +kernel
set_option maxRecDepth 65536 in
theorem w_case : (Jvm.Cond.and given_1 narrow_1).before args0 about1 = true := by decide +kernel
set_option maxRecDepth 65536 in
theorem w_consts : constsHeld consts_1 about1 := Jvm.Lit.constsHeldB_iff.mp (by decide +kernel)
theorem w_applies : (headSpec (Jvm.Cond.code x code maxLocals ret :: tables_1) room_1).applies x e0.platform about1 = true :=
  (Spec.applies_iff w_frames).mpr ⟨w_running, w_runnable, w_alone, w_named, w_hears, w_ripe, w_room, w_tables⟩
theorem atStart : AtStart classFile x code maxLocals ret World_1 tables_1 room_1 Calls_1 rest_1 Pre_1 launch0 p0 e0 about1 theMethod args0 below0 :=
  ⟨lists_1, trivial, launch0.admits_env _ _ _, launch0.least_env, fairChoices_fair.cas, fairChoices_fair.clock, w_frames, w_args, w_heap, w_applies, ⟨w_consts, trivial⟩, w_rest, w_case⟩
end start1
theorem witness_1 : WitnessClaimed_1 := ⟨start1.p0, start1.e0, start1.about1, start1.theMethod, start1.args0, start1.below0, start1.atStart⟩
end Jvm.Pilot.@@N@@
